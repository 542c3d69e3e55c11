import JvmDerived
import JvmDerived.Pilot.@@N@@Statement
import JvmDerived.Pilot.@@N@@Code
set_option linter.unusedVariables false
set_option linter.unusedSimpArgs false
namespace Jvm.RoadKit
open Sem ClassFile Op Lib Jvm.Stand Jvm.Free Jvm.LawKit
section New
variable {p : Program} {l : Launch} {e : Env} {R : Room} {s : State} {m : MethodId} {args : Array Value} {below : List Frame} {meth : Method} {c : Code} {T : State} {locs : List Loc} {cells slots : Nat}
theorem retI (X : Stand p l e R s m args below meth c T locs cells slots) (hx : p.tables.exec = Jvm.exec) {pc : Nat} {Ls : Array Slot} {z : Int32} {rest : List Value} (hret : meth.sig.returnType = some .int) (hd : decode c.code pc = .ok (.ireturn, 1)) {fs : List Frame}
    (hl : ∀ (f : JFrame) (acts : List Action), f.method = m → f.locked = none → f.entered = [] → (doReturn e (T.setTop f) acts (some (.int z))).1 = T.setFrames fs) : Steps p.tables e below (T.setTop (mkF m pc Ls (.int z :: rest))) (T.setFrames fs) := by
  have hm' : T.vm.method? m = some meth := X.method'
  have hn : narrow .int (.int z) = .int z := rfl
  show Steps p.tables e below (T.setTop { method := m, pc := pc, locals := Ls, stack := _ :: rest, locked := none }) _
  jvm_step X.here [X.here.top, hx, hd, hm', hret, hn]
  first | (intro acts; rw [hl _ acts rfl rfl rfl]) | rw [hl _ _ rfl rfl rfl]
  exact Steps.refl _
end New
end Jvm.RoadKit
namespace Jvm.Pilot.@@N@@
open Jvm Jvm.ClassFile Sem Op Lib Jvm.Free Jvm.Stand Jvm.LawKit Jvm.RoadKit Bundle Jvm.Pilot.@@N@@.Jvm.D
theorem own_sel {s : State} {a : Array Value} {y : MethodName} {n : Nat} (hi : (Jvm.Cond.instanceMethod y).before a s = true) (hp : (Jvm.Cond.privateMethod y).before a s = true) (hn : (Jvm.Cond.instantiable y.cls n).before a s = true) (hx : y.cls ≠ "java/lang/invoke/MethodHandle" ∧ y.cls ≠ "java/lang/invoke/VarHandle") : (Jvm.Cond.selects y.cls y y).before a s = true := by
  obtain ⟨m, meth, h1, h2, h3, h4⟩ := Cond.instanceMethod_spec hi
  obtain ⟨c, k, c1, c2, c3, c4, -⟩ := Cond.instantiable_spec hn
  have hf := State.methodFound?_of_named h1 hx
  have hc := findClass_of_methodNamed h1
  obtain rfl : c = m.cls := Option.some.inj (c1.symm.trans hc)
  have hs : selectMethod {} s.vm m.cls m = .method m := selectMethod_private h2 (Cond.privateMethod_at hp m meth h1 h2)
  have hk : k.isInterface = false := by simp only [Bool.or_eq_false_iff] at c4; exact c4.1
  simp [Cond.before, Cond.holds, Cond.value, hc, hf, h1, hs, c2, hk]
section OwnArr
variable {p : Program} {l : Launch} {e : Env} {R : Room} {s : State} {m : MethodId} {args : Array Value} {below : List Frame} {meth : Method} {c : Code} {T : State} {locs : List Loc} {cells slots : Nat} {Z : State} {h : Heap}
theorem own_map_set {α β : Type} (f : α → β) (L : List α) (i : Nat) (x : α) : (L.map f).set i (f x) = (L.set i x).map f := List.map_set.symm
theorem own_getI (L : List Int32) (i : Nat) : (L.map Value.int).getD i (.int 0) = .int (L.getD i 0) := by
  simp only [List.getD_eq_getElem?_getD, List.getElem?_map]; cases L[i]? <;> rfl
theorem own_getJ (L : List Int64) (i : Nat) : (L.map Value.long).getD i (.long 0) = .long (L.getD i 0) := by
  simp only [List.getD_eq_getElem?_getD, List.getElem?_map]; cases L[i]? <;> rfl
theorem own_stI (X : Stand p l e R s m args below meth c T locs cells slots) (hx : p.tables.exec = Jvm.exec) (hZ : Z.Warmed39 s.vm) (eT : T.heap = h) {a : Addr} {k : ClassId} {z : Int32} {L : List Int32} (F : Arv Z h a k .int z (L.map Value.int) (.int 0)) {j x : Int32} (hj : ¬ j < 0 ∧ j < z) (hl : j.toNatClampNeg < L.length) {g : JFrame} (hg : g.method = m) {rest : List Value} (hs : g.stack = .int x :: .int j :: .ref a :: rest) (hd : decode c.code g.pc = .ok (.iastore, 1)) :
    ∃ T' h', Stand p l e R s m args below meth c T' (locs ++ [⟨a, j.toNatClampNeg⟩]) cells slots ∧ T'.heap = h' ∧ Wr h h' a j.toNatClampNeg (.int x) ∧ Arv Z h' a k .int z ((L.set j.toNatClampNeg x).map Value.int) (.int 0) ∧ ∀ target, Steps p.tables e below (T'.setTop { g with pc := g.pc + 1, stack := rest }) target → Steps p.tables e below (T.setTop g) target := by
  obtain ⟨cl, Ar, q, Sz, Nn, Hh, Gg⟩ := F
  obtain ⟨T', h', X', e', W, st⟩ := stI X hx hZ eT Ar (j := j) (inb_of Sz hj) hg hs hd
  refine ⟨T', h', X', e', W, ?_, st⟩
  have := Arv.set Ar q Sz Nn Hh Gg (v := .int x) rfl W _ rfl (by simpa using hl)
  rw [own_map_set] at this; exact this
theorem own_stJ (X : Stand p l e R s m args below meth c T locs cells slots) (hx : p.tables.exec = Jvm.exec) (hZ : Z.Warmed39 s.vm) (eT : T.heap = h) {a : Addr} {k : ClassId} {z : Int32} {L : List Int64} (F : Arv Z h a k .long z (L.map Value.long) (.long 0)) {j : Int32} {x : Int64} (hj : ¬ j < 0 ∧ j < z) (hl : j.toNatClampNeg < L.length) {g : JFrame} (hg : g.method = m) {rest : List Value} (hs : g.stack = .long x :: .int j :: .ref a :: rest) (hd : decode c.code g.pc = .ok (.lastore, 1)) :
    ∃ T' h', Stand p l e R s m args below meth c T' (locs ++ [⟨a, j.toNatClampNeg⟩]) cells slots ∧ T'.heap = h' ∧ Wr h h' a j.toNatClampNeg (.long x) ∧ Arv Z h' a k .long z ((L.set j.toNatClampNeg x).map Value.long) (.long 0) ∧ ∀ target, Steps p.tables e below (T'.setTop { g with pc := g.pc + 1, stack := rest }) target → Steps p.tables e below (T.setTop g) target := by
  obtain ⟨cl, Ar, q, Sz, Nn, Hh, Gg⟩ := F
  obtain ⟨T', h', X', e', W, st⟩ := stJ X hx hZ eT Ar (j := j) (inb_of Sz hj) hg hs hd
  refine ⟨T', h', X', e', W, ?_, st⟩
  have := Arv.set Ar q Sz Nn Hh Gg (v := .long x) rfl W _ rfl (by simpa using hl)
  rw [own_map_set] at this; exact this
theorem own_ldI (X : Stand p l e R s m args below meth c T locs cells slots) (hx : p.tables.exec = Jvm.exec) (hZ : Z.Warmed39 s.vm) (eT : T.heap = h) {a : Addr} {k : ClassId} {z : Int32} {L : List Int32} (F : Arv Z h a k .int z (L.map Value.int) (.int 0)) {j : Int32} (hj : ¬ j < 0 ∧ j < z) {g : JFrame} (hg : g.method = m) {rest : List Value} (hs : g.stack = .int j :: .ref a :: rest) (hd : decode c.code g.pc = .ok (.iaload, 1)) (target : State)
    (hrest : Steps p.tables e below (T.setTop { g with pc := g.pc + 1, stack := .int (L.getD j.toNatClampNeg 0) :: rest }) target) : Steps p.tables e below (T.setTop g) target := by
  obtain ⟨cl, Ar, q, Sz, Nn, Hh, Gg⟩ := F
  exact X.iaload hx (j := j) (v := .int (L.getD j.toNatClampNeg 0)) (by rw [eT]; exact Ar.1) (State.isArrayOf_alike hZ.alike Ar.2.1) Ar.2.2 (inb_of Sz hj) (Has.at Hh (inb_of Sz hj) (own_getI L _)) hg hs hd _ hrest
theorem own_ldJ (X : Stand p l e R s m args below meth c T locs cells slots) (hx : p.tables.exec = Jvm.exec) (hZ : Z.Warmed39 s.vm) (eT : T.heap = h) {a : Addr} {k : ClassId} {z : Int32} {L : List Int64} (F : Arv Z h a k .long z (L.map Value.long) (.long 0)) {j : Int32} (hj : ¬ j < 0 ∧ j < z) {g : JFrame} (hg : g.method = m) {rest : List Value} (hs : g.stack = .int j :: .ref a :: rest) (hd : decode c.code g.pc = .ok (.laload, 1)) (target : State)
    (hrest : Steps p.tables e below (T.setTop { g with pc := g.pc + 1, stack := .long (L.getD j.toNatClampNeg 0) :: rest }) target) : Steps p.tables e below (T.setTop g) target := by
  obtain ⟨cl, Ar, q, Sz, Nn, Hh, Gg⟩ := F
  exact X.laload hx (j := j) (v := .long (L.getD j.toNatClampNeg 0)) (by rw [eT]; exact Ar.1) (State.isArrayOf_alike hZ.alike Ar.2.1) Ar.2.2 (inb_of Sz hj) (Has.at Hh (inb_of Sz hj) (own_getJ L _)) hg hs hd _ hrest
theorem own_len (X : Stand p l e R s m args below meth c T locs cells slots) (hx : p.tables.exec = Jvm.exec) (hZ : Z.Warmed39 s.vm) (eT : T.heap = h) {a : Addr} {k : ClassId} {ty : FieldType} {z : Int32} {vs : List Value} {d : Value} (F : Arv Z h a k ty z vs d) {g : JFrame} (hg : g.method = m) {rest : List Value} (hs : g.stack = .ref a :: rest) (hd : decode c.code g.pc = .ok (.arraylength, 1)) (target : State)
    (hrest : Steps p.tables e below (T.setTop { g with pc := g.pc + 1, stack := .int z :: rest }) target) : Steps p.tables e below (T.setTop g) target := by
  obtain ⟨cl, Ar, q, Sz, Nn, Hh, Gg⟩ := F
  refine X.arraylength hx (by rw [eT]; exact Ar.1) (State.isArrayOf_alike hZ.alike Ar.2.1) hg hs hd _ ?_
  rw [len_of Sz Nn]; exact hrest
theorem own_neA {a b : Addr} {C : String} {k : ClassId} {ty : FieldType} {z : Int32} {vs : List Value} {d : Value} {a0 : Array Value} {n : Nat} (F : Exa Z h a C) (wi : (Jvm.Cond.instantiable C n).before a0 Z = true) (G : Arv Z h b k ty z vs d) : a ≠ b := by
  obtain ⟨cl, Ar, -⟩ := G; exact ne_arr F wi Ar
end OwnArr
def own_chain (p1 : Int32) : Int32 :=
  let n1 : Int32 := if p1 < (65536 : Int32) then (31 : Int32) else ((31 : Int32) + (-16 : Int32))
  let i1 : Int32 := if p1 < (65536 : Int32) then p1 else ((p1.toUInt32 >>> ((16 : Int32) &&& 31).toUInt32).toInt32)
  let n2 : Int32 := if i1 < (256 : Int32) then n1 else (n1 + (-8 : Int32))
  let i2 : Int32 := if i1 < (256 : Int32) then i1 else ((i1.toUInt32 >>> ((8 : Int32) &&& 31).toUInt32).toInt32)
  let n3 : Int32 := if i2 < (16 : Int32) then n2 else (n2 + (-4 : Int32))
  let i3 : Int32 := if i2 < (16 : Int32) then i2 else ((i2.toUInt32 >>> ((4 : Int32) &&& 31).toUInt32).toInt32)
  let n4 : Int32 := if i3 < (4 : Int32) then n3 else (n3 + (-2 : Int32))
  let i4 : Int32 := if i3 < (4 : Int32) then i3 else ((i3.toUInt32 >>> ((2 : Int32) &&& 31).toUInt32).toInt32)
  n4 - ((i4.toUInt32 >>> ((1 : Int32) &&& 31).toUInt32).toInt32)
def own_nlz (p1 : Int32) : Int32 := if (0 : Int32) < p1 then own_chain p1 else if p1 = (0 : Int32) then (32 : Int32) else (0 : Int32)
def own_hi (q1 : Int64) : Int32 := (((q1.toUInt64 >>> ((32 : Int32) &&& 0x3f).toInt64.toUInt64).toInt64).toInt32)
def own_nlz64 (q1 : Int64) : Int32 := if own_hi q1 = (0 : Int32) then (32 : Int32) + own_nlz (q1.toInt32) else own_nlz (own_hi q1)
theorem d6_0 : decode jdk_33_method_47_code 0 = .ok (.iload_n 0, 1) := by decide +kernel
theorem d6_1 : decode jdk_33_method_47_code 1 = .ok (.ifCond .gt 14, 3) := by decide +kernel
theorem d6_4 : decode jdk_33_method_47_code 4 = .ok (.iload_n 0, 1) := by decide +kernel
theorem d6_5 : decode jdk_33_method_47_code 5 = .ok (.ifCond .ne 8, 3) := by decide +kernel
theorem d6_8 : decode jdk_33_method_47_code 8 = .ok (.bipush 32, 2) := by decide +kernel
theorem d6_10 : decode jdk_33_method_47_code 10 = .ok (.goto 4, 3) := by decide +kernel
theorem d6_13 : decode jdk_33_method_47_code 13 = .ok (.iconst 0, 1) := by decide +kernel
theorem d6_14 : decode jdk_33_method_47_code 14 = .ok (.ireturn, 1) := by decide +kernel
theorem d6_15 : decode jdk_33_method_47_code 15 = .ok (.bipush 31, 2) := by decide +kernel
theorem d6_17 : decode jdk_33_method_47_code 17 = .ok (.istore_n 1, 1) := by decide +kernel
theorem d6_18 : decode jdk_33_method_47_code 18 = .ok (.iload_n 0, 1) := by decide +kernel
theorem d6_19 : decode jdk_33_method_47_code 19 = .ok (.ldc_w 264, 3) := by decide +kernel
theorem d6_22 : decode jdk_33_method_47_code 22 = .ok (.if_icmp .lt 11, 3) := by decide +kernel
theorem d6_25 : decode jdk_33_method_47_code 25 = .ok (.iinc 1 (-16), 3) := by decide +kernel
theorem d6_28 : decode jdk_33_method_47_code 28 = .ok (.iload_n 0, 1) := by decide +kernel
theorem d6_29 : decode jdk_33_method_47_code 29 = .ok (.bipush 16, 2) := by decide +kernel
theorem d6_31 : decode jdk_33_method_47_code 31 = .ok (.iushr, 1) := by decide +kernel
theorem d6_32 : decode jdk_33_method_47_code 32 = .ok (.istore_n 0, 1) := by decide +kernel
theorem d6_33 : decode jdk_33_method_47_code 33 = .ok (.iload_n 0, 1) := by decide +kernel
theorem d6_34 : decode jdk_33_method_47_code 34 = .ok (.sipush 256, 3) := by decide +kernel
theorem d6_37 : decode jdk_33_method_47_code 37 = .ok (.if_icmp .lt 11, 3) := by decide +kernel
theorem d6_40 : decode jdk_33_method_47_code 40 = .ok (.iinc 1 (-8), 3) := by decide +kernel
theorem d6_43 : decode jdk_33_method_47_code 43 = .ok (.iload_n 0, 1) := by decide +kernel
theorem d6_44 : decode jdk_33_method_47_code 44 = .ok (.bipush 8, 2) := by decide +kernel
theorem d6_46 : decode jdk_33_method_47_code 46 = .ok (.iushr, 1) := by decide +kernel
theorem d6_47 : decode jdk_33_method_47_code 47 = .ok (.istore_n 0, 1) := by decide +kernel
theorem d6_48 : decode jdk_33_method_47_code 48 = .ok (.iload_n 0, 1) := by decide +kernel
theorem d6_49 : decode jdk_33_method_47_code 49 = .ok (.bipush 16, 2) := by decide +kernel
theorem d6_51 : decode jdk_33_method_47_code 51 = .ok (.if_icmp .lt 10, 3) := by decide +kernel
theorem d6_54 : decode jdk_33_method_47_code 54 = .ok (.iinc 1 (-4), 3) := by decide +kernel
theorem d6_57 : decode jdk_33_method_47_code 57 = .ok (.iload_n 0, 1) := by decide +kernel
theorem d6_58 : decode jdk_33_method_47_code 58 = .ok (.iconst 4, 1) := by decide +kernel
theorem d6_59 : decode jdk_33_method_47_code 59 = .ok (.iushr, 1) := by decide +kernel
theorem d6_60 : decode jdk_33_method_47_code 60 = .ok (.istore_n 0, 1) := by decide +kernel
theorem d6_61 : decode jdk_33_method_47_code 61 = .ok (.iload_n 0, 1) := by decide +kernel
theorem d6_62 : decode jdk_33_method_47_code 62 = .ok (.iconst 4, 1) := by decide +kernel
theorem d6_63 : decode jdk_33_method_47_code 63 = .ok (.if_icmp .lt 10, 3) := by decide +kernel
theorem d6_66 : decode jdk_33_method_47_code 66 = .ok (.iinc 1 (-2), 3) := by decide +kernel
theorem d6_69 : decode jdk_33_method_47_code 69 = .ok (.iload_n 0, 1) := by decide +kernel
theorem d6_70 : decode jdk_33_method_47_code 70 = .ok (.iconst 2, 1) := by decide +kernel
theorem d6_71 : decode jdk_33_method_47_code 71 = .ok (.iushr, 1) := by decide +kernel
theorem d6_72 : decode jdk_33_method_47_code 72 = .ok (.istore_n 0, 1) := by decide +kernel
theorem d6_73 : decode jdk_33_method_47_code 73 = .ok (.iload_n 1, 1) := by decide +kernel
theorem d6_74 : decode jdk_33_method_47_code 74 = .ok (.iload_n 0, 1) := by decide +kernel
theorem d6_75 : decode jdk_33_method_47_code 75 = .ok (.iconst 1, 1) := by decide +kernel
theorem d6_76 : decode jdk_33_method_47_code 76 = .ok (.iushr, 1) := by decide +kernel
theorem d6_77 : decode jdk_33_method_47_code 77 = .ok (.isub, 1) := by decide +kernel
theorem d6_78 : decode jdk_33_method_47_code 78 = .ok (.ireturn, 1) := by decide +kernel
theorem pn_6 : plainName "java/lang/Integer" = true := by first | (simp [plainName, overriddenIn]; done) | decide +kernel
theorem ef_nlzI (m : MethodId) (x0 : Int32) : entryFrame m #[(.int x0)] 2 = mkF m 0 #[.val (.int x0), .unset] [] := by first | (simp [entryFrame, mkF, argsToLocals, Value.category]; done) | rfl
def QnlzI (Z : State) (p1 : Int32) (h0 : Heap) (n0 : Nat) (v : Option Value) (h : Heap) (L : List Loc) : Prop := v = some (.int (own_nlz p1)) ∧ Fr n0 L ∧ h = h0
set_option maxRecDepth 65536 in
set_option maxHeartbeats 40000000 in
theorem rm_nlzI (l : Launch) (Z : State) (a0 : Array Value) (hw : ∀ d ∈ tables_1, d.before a0 Z = true) (ws : List Jvm.Cond) (p1 : Int32) (h0 : Heap) (n0 : Nat) (Z0 : n0 ≤ h0.size) :
    MetFree l (⟨"java/lang/Integer", "numberOfLeadingZeros", "(I)I"⟩ : MethodName) (head1 (Jvm.Cond.code (⟨"java/lang/Integer", "numberOfLeadingZeros", "(I)I"⟩ : MethodName) jdk_33_method_47_code 2 (some .int) :: ws) ({ frames := 0, cells := 0, slots := 0, locals := 0 } : Room)) (fun a U => a = #[(.int p1)] ∧ Z.Warmed39 U.vm ∧ U.heap = h0) (fun _ _ _ _ _ => True) (fun _ U o U' => ∃ v L, o = .returned v ∧ QnlzI Z p1 h0 n0 v U'.heap L ∧ FrameEnd U o U' L ({ frames := 0, cells := 0, slots := 0, locals := 0 } : Room).cells ({ frames := 0, cells := 0, slots := 0, locals := 0 } : Room).slots) := by
  refine MetFree.of_bodySF (plainFor_of_name pn_6) hisR ?_
  intro p e s m args below meth c s₁ Bd hml0 hP hK
  obtain ⟨rfl, hZ, hh⟩ := hP
  have hx := Bd.exec
  have hby := Bd.bytes
  have hml : c.maxLocals = 2 := hml0
  have hown : s.vm.findClass "java/lang/Integer" = some m.cls := findClass_of_methodNamed Bd.named
  have hnm := (name_of_methodNamed Bd.named Bd.method).1
  have X0 : Stand p l e ({ frames := 0, cells := 0, slots := 0, locals := 0 } : Room) s m #[(.int p1)] below meth c s₁ [] 0 0 := Stand.of_body Bd
  have e0 : s₁.heap = h0 := by rw [← hh, Bd.state]; rfl
  have N0 := Fr.nil n0
  have k0 : ∀ t, Steps p.tables e below (s₁.setTop (mkF m 0 #[.val (.int p1), .unset] [])) t → Steps p.tables e below (s₁.setTop (entryFrame m #[(.int p1)] 2)) t := fun t k => castTop (ef_nlzI m p1) k
  have k1 : ∀ t, Steps p.tables e below (s₁.setTop (mkF m 1 #[.val (.int p1), .unset] [(.int p1)])) t → Steps p.tables e below (s₁.setTop (entryFrame m #[(.int p1)] 2)) t := fun t k => k0 t (by
    show Steps p.tables e below (s₁.setTop (mkF m 0 #[.val (.int p1), .unset] [])) _
    refine XS.iloadN X0.here hx rfl (hb hby d6_0) rfl ?_
    exact k)
  by_cases cd1 : (0 : Int32) < p1
  ·
    have k2 : ∀ t, Steps p.tables e below (s₁.setTop (mkF m 18 #[.val (.int p1), .val (.int (31 : Int32))] [])) t → Steps p.tables e below (s₁.setTop (entryFrame m #[(.int p1)] 2)) t := fun t k => k1 t (by
      show Steps p.tables e below (s₁.setTop (mkF m 1 #[.val (.int p1), .unset] [(.int p1)])) _
      refine XS.ifYes X0.here hx rfl (pc0 := 1) (pc' := 15) rfl (hb hby d6_1) rfl ((if0 _ _).trans (tlt cd1).2.2.1) (by decide) (by decide) ?_
      show Steps p.tables e below (s₁.setTop (mkF m 15 #[.val (.int p1), .unset] [])) _
      refine XS.bipush X0.here hx rfl (hb hby d6_15) ?_
      show Steps p.tables e below (s₁.setTop (mkF m 17 #[.val (.int p1), .unset] [(.int (31 : Int32))])) _
      refine XS.istoreN X0.here hx rfl (hb hby d6_17) rfl (l' := #[.val (.int p1), .val (.int (31 : Int32))]) rfl ?_
      exact k)
    obtain ⟨i1, hd_i1⟩ : ∃ z : Int32, z = (if p1 < (65536 : Int32) then p1 else ((p1.toUInt32 >>> ((16 : Int32) &&& 31).toUInt32).toInt32)) := ⟨_, rfl⟩
    obtain ⟨n1, hd_n1⟩ : ∃ z : Int32, z = (if p1 < (65536 : Int32) then (31 : Int32) else ((31 : Int32) + (-16 : Int32))) := ⟨_, rfl⟩
    have k3 : ∀ t, Steps p.tables e below (s₁.setTop (mkF m 33 #[.val (.int i1), .val (.int n1)] [])) t → Steps p.tables e below (s₁.setTop (entryFrame m #[(.int p1)] 2)) t := fun t k => k2 t (by
      show Steps p.tables e below (s₁.setTop (mkF m 18 #[.val (.int p1), .val (.int (31 : Int32))] [])) _
      refine XS.iloadN X0.here hx rfl (hb hby d6_18) rfl ?_
      show Steps p.tables e below (s₁.setTop (mkF m 19 #[.val (.int p1), .val (.int (31 : Int32))] [(.int p1)])) _
      refine X0.ldcwInt hx hown (mvT hZ (hw _ (List.mem_of_getElem? (i := 34) rfl))) (g := (mkF m 19 #[.val (.int p1), .val (.int (31 : Int32))] [(.int p1)])) rfl (hb hby d6_19) _ ?_
      by_cases c22 : p1 < (65536 : Int32)
      ·
        show Steps p.tables e below (s₁.setTop (mkF m 22 #[.val (.int p1), .val (.int (31 : Int32))] [(.int (65536 : Int32)), (.int p1)])) _
        refine XS.icmpYes X0.here hx rfl (pc0 := 22) (pc' := 33) rfl (hb hby d6_22) rfl (tlt c22).1 (by decide) (by decide) ?_
        simp only [if_pos c22] at hd_i1
        rw [hd_i1] at k
        simp only [if_pos c22] at hd_n1
        rw [hd_n1] at k
        exact k
      ·
        show Steps p.tables e below (s₁.setTop (mkF m 22 #[.val (.int p1), .val (.int (31 : Int32))] [(.int (65536 : Int32)), (.int p1)])) _
        refine XS.icmpNo X0.here hx rfl (hb hby d6_22) rfl (flt c22).1 ?_
        show Steps p.tables e below (s₁.setTop (mkF m 25 #[.val (.int p1), .val (.int (31 : Int32))] [])) _
        refine XS.iinc X0.here hx rfl (hb hby d6_25) rfl (l' := #[.val (.int p1), .val (.int ((31 : Int32) + (-16 : Int32)))]) rfl ?_
        show Steps p.tables e below (s₁.setTop (mkF m 28 #[.val (.int p1), .val (.int ((31 : Int32) + (-16 : Int32)))] [])) _
        refine XS.iloadN X0.here hx rfl (hb hby d6_28) rfl ?_
        show Steps p.tables e below (s₁.setTop (mkF m 29 #[.val (.int p1), .val (.int ((31 : Int32) + (-16 : Int32)))] [(.int p1)])) _
        refine XS.bipush X0.here hx rfl (hb hby d6_29) ?_
        show Steps p.tables e below (s₁.setTop (mkF m 31 #[.val (.int p1), .val (.int ((31 : Int32) + (-16 : Int32)))] [(.int (16 : Int32)), (.int p1)])) _
        refine XS.iushr X0.here hx rfl (hb hby d6_31) rfl ?_
        show Steps p.tables e below (s₁.setTop (mkF m 32 #[.val (.int p1), .val (.int ((31 : Int32) + (-16 : Int32)))] [(.int ((p1.toUInt32 >>> ((16 : Int32) &&& 31).toUInt32).toInt32))])) _
        refine XS.istoreN X0.here hx rfl (hb hby d6_32) rfl (l' := #[.val (.int ((p1.toUInt32 >>> ((16 : Int32) &&& 31).toUInt32).toInt32)), .val (.int ((31 : Int32) + (-16 : Int32)))]) rfl ?_
        simp only [if_neg c22] at hd_i1
        rw [hd_i1] at k
        simp only [if_neg c22] at hd_n1
        rw [hd_n1] at k
        exact k)
    obtain ⟨i2, hd_i2⟩ : ∃ z : Int32, z = (if i1 < (256 : Int32) then i1 else ((i1.toUInt32 >>> ((8 : Int32) &&& 31).toUInt32).toInt32)) := ⟨_, rfl⟩
    obtain ⟨n2, hd_n2⟩ : ∃ z : Int32, z = (if i1 < (256 : Int32) then n1 else (n1 + (-8 : Int32))) := ⟨_, rfl⟩
    have k4 : ∀ t, Steps p.tables e below (s₁.setTop (mkF m 48 #[.val (.int i2), .val (.int n2)] [])) t → Steps p.tables e below (s₁.setTop (entryFrame m #[(.int p1)] 2)) t := fun t k => k3 t (by
      show Steps p.tables e below (s₁.setTop (mkF m 33 #[.val (.int i1), .val (.int n1)] [])) _
      refine XS.iloadN X0.here hx rfl (hb hby d6_33) rfl ?_
      show Steps p.tables e below (s₁.setTop (mkF m 34 #[.val (.int i1), .val (.int n1)] [(.int i1)])) _
      refine XS.sipush X0.here hx rfl (hb hby d6_34) ?_
      by_cases c37 : i1 < (256 : Int32)
      ·
        show Steps p.tables e below (s₁.setTop (mkF m 37 #[.val (.int i1), .val (.int n1)] [(.int (256 : Int32)), (.int i1)])) _
        refine XS.icmpYes X0.here hx rfl (pc0 := 37) (pc' := 48) rfl (hb hby d6_37) rfl (tlt c37).1 (by decide) (by decide) ?_
        simp only [if_pos c37] at hd_i2
        rw [hd_i2] at k
        simp only [if_pos c37] at hd_n2
        rw [hd_n2] at k
        exact k
      ·
        show Steps p.tables e below (s₁.setTop (mkF m 37 #[.val (.int i1), .val (.int n1)] [(.int (256 : Int32)), (.int i1)])) _
        refine XS.icmpNo X0.here hx rfl (hb hby d6_37) rfl (flt c37).1 ?_
        show Steps p.tables e below (s₁.setTop (mkF m 40 #[.val (.int i1), .val (.int n1)] [])) _
        refine XS.iinc X0.here hx rfl (hb hby d6_40) rfl (l' := #[.val (.int i1), .val (.int (n1 + (-8 : Int32)))]) rfl ?_
        show Steps p.tables e below (s₁.setTop (mkF m 43 #[.val (.int i1), .val (.int (n1 + (-8 : Int32)))] [])) _
        refine XS.iloadN X0.here hx rfl (hb hby d6_43) rfl ?_
        show Steps p.tables e below (s₁.setTop (mkF m 44 #[.val (.int i1), .val (.int (n1 + (-8 : Int32)))] [(.int i1)])) _
        refine XS.bipush X0.here hx rfl (hb hby d6_44) ?_
        show Steps p.tables e below (s₁.setTop (mkF m 46 #[.val (.int i1), .val (.int (n1 + (-8 : Int32)))] [(.int (8 : Int32)), (.int i1)])) _
        refine XS.iushr X0.here hx rfl (hb hby d6_46) rfl ?_
        show Steps p.tables e below (s₁.setTop (mkF m 47 #[.val (.int i1), .val (.int (n1 + (-8 : Int32)))] [(.int ((i1.toUInt32 >>> ((8 : Int32) &&& 31).toUInt32).toInt32))])) _
        refine XS.istoreN X0.here hx rfl (hb hby d6_47) rfl (l' := #[.val (.int ((i1.toUInt32 >>> ((8 : Int32) &&& 31).toUInt32).toInt32)), .val (.int (n1 + (-8 : Int32)))]) rfl ?_
        simp only [if_neg c37] at hd_i2
        rw [hd_i2] at k
        simp only [if_neg c37] at hd_n2
        rw [hd_n2] at k
        exact k)
    obtain ⟨i3, hd_i3⟩ : ∃ z : Int32, z = (if i2 < (16 : Int32) then i2 else ((i2.toUInt32 >>> ((4 : Int32) &&& 31).toUInt32).toInt32)) := ⟨_, rfl⟩
    obtain ⟨n3, hd_n3⟩ : ∃ z : Int32, z = (if i2 < (16 : Int32) then n2 else (n2 + (-4 : Int32))) := ⟨_, rfl⟩
    have k5 : ∀ t, Steps p.tables e below (s₁.setTop (mkF m 61 #[.val (.int i3), .val (.int n3)] [])) t → Steps p.tables e below (s₁.setTop (entryFrame m #[(.int p1)] 2)) t := fun t k => k4 t (by
      show Steps p.tables e below (s₁.setTop (mkF m 48 #[.val (.int i2), .val (.int n2)] [])) _
      refine XS.iloadN X0.here hx rfl (hb hby d6_48) rfl ?_
      show Steps p.tables e below (s₁.setTop (mkF m 49 #[.val (.int i2), .val (.int n2)] [(.int i2)])) _
      refine XS.bipush X0.here hx rfl (hb hby d6_49) ?_
      by_cases c51 : i2 < (16 : Int32)
      ·
        show Steps p.tables e below (s₁.setTop (mkF m 51 #[.val (.int i2), .val (.int n2)] [(.int (16 : Int32)), (.int i2)])) _
        refine XS.icmpYes X0.here hx rfl (pc0 := 51) (pc' := 61) rfl (hb hby d6_51) rfl (tlt c51).1 (by decide) (by decide) ?_
        simp only [if_pos c51] at hd_i3
        rw [hd_i3] at k
        simp only [if_pos c51] at hd_n3
        rw [hd_n3] at k
        exact k
      ·
        show Steps p.tables e below (s₁.setTop (mkF m 51 #[.val (.int i2), .val (.int n2)] [(.int (16 : Int32)), (.int i2)])) _
        refine XS.icmpNo X0.here hx rfl (hb hby d6_51) rfl (flt c51).1 ?_
        show Steps p.tables e below (s₁.setTop (mkF m 54 #[.val (.int i2), .val (.int n2)] [])) _
        refine XS.iinc X0.here hx rfl (hb hby d6_54) rfl (l' := #[.val (.int i2), .val (.int (n2 + (-4 : Int32)))]) rfl ?_
        show Steps p.tables e below (s₁.setTop (mkF m 57 #[.val (.int i2), .val (.int (n2 + (-4 : Int32)))] [])) _
        refine XS.iloadN X0.here hx rfl (hb hby d6_57) rfl ?_
        show Steps p.tables e below (s₁.setTop (mkF m 58 #[.val (.int i2), .val (.int (n2 + (-4 : Int32)))] [(.int i2)])) _
        refine XS.iconst X0.here hx rfl (hb hby d6_58) ?_
        show Steps p.tables e below (s₁.setTop (mkF m 59 #[.val (.int i2), .val (.int (n2 + (-4 : Int32)))] [(.int (4 : Int32)), (.int i2)])) _
        refine XS.iushr X0.here hx rfl (hb hby d6_59) rfl ?_
        show Steps p.tables e below (s₁.setTop (mkF m 60 #[.val (.int i2), .val (.int (n2 + (-4 : Int32)))] [(.int ((i2.toUInt32 >>> ((4 : Int32) &&& 31).toUInt32).toInt32))])) _
        refine XS.istoreN X0.here hx rfl (hb hby d6_60) rfl (l' := #[.val (.int ((i2.toUInt32 >>> ((4 : Int32) &&& 31).toUInt32).toInt32)), .val (.int (n2 + (-4 : Int32)))]) rfl ?_
        simp only [if_neg c51] at hd_i3
        rw [hd_i3] at k
        simp only [if_neg c51] at hd_n3
        rw [hd_n3] at k
        exact k)
    obtain ⟨i4, hd_i4⟩ : ∃ z : Int32, z = (if i3 < (4 : Int32) then i3 else ((i3.toUInt32 >>> ((2 : Int32) &&& 31).toUInt32).toInt32)) := ⟨_, rfl⟩
    obtain ⟨n4, hd_n4⟩ : ∃ z : Int32, z = (if i3 < (4 : Int32) then n3 else (n3 + (-2 : Int32))) := ⟨_, rfl⟩
    have k6 : ∀ t, Steps p.tables e below (s₁.setTop (mkF m 73 #[.val (.int i4), .val (.int n4)] [])) t → Steps p.tables e below (s₁.setTop (entryFrame m #[(.int p1)] 2)) t := fun t k => k5 t (by
      show Steps p.tables e below (s₁.setTop (mkF m 61 #[.val (.int i3), .val (.int n3)] [])) _
      refine XS.iloadN X0.here hx rfl (hb hby d6_61) rfl ?_
      show Steps p.tables e below (s₁.setTop (mkF m 62 #[.val (.int i3), .val (.int n3)] [(.int i3)])) _
      refine XS.iconst X0.here hx rfl (hb hby d6_62) ?_
      by_cases c63 : i3 < (4 : Int32)
      ·
        show Steps p.tables e below (s₁.setTop (mkF m 63 #[.val (.int i3), .val (.int n3)] [(.int (4 : Int32)), (.int i3)])) _
        refine XS.icmpYes X0.here hx rfl (pc0 := 63) (pc' := 73) rfl (hb hby d6_63) rfl (tlt c63).1 (by decide) (by decide) ?_
        simp only [if_pos c63] at hd_i4
        rw [hd_i4] at k
        simp only [if_pos c63] at hd_n4
        rw [hd_n4] at k
        exact k
      ·
        show Steps p.tables e below (s₁.setTop (mkF m 63 #[.val (.int i3), .val (.int n3)] [(.int (4 : Int32)), (.int i3)])) _
        refine XS.icmpNo X0.here hx rfl (hb hby d6_63) rfl (flt c63).1 ?_
        show Steps p.tables e below (s₁.setTop (mkF m 66 #[.val (.int i3), .val (.int n3)] [])) _
        refine XS.iinc X0.here hx rfl (hb hby d6_66) rfl (l' := #[.val (.int i3), .val (.int (n3 + (-2 : Int32)))]) rfl ?_
        show Steps p.tables e below (s₁.setTop (mkF m 69 #[.val (.int i3), .val (.int (n3 + (-2 : Int32)))] [])) _
        refine XS.iloadN X0.here hx rfl (hb hby d6_69) rfl ?_
        show Steps p.tables e below (s₁.setTop (mkF m 70 #[.val (.int i3), .val (.int (n3 + (-2 : Int32)))] [(.int i3)])) _
        refine XS.iconst X0.here hx rfl (hb hby d6_70) ?_
        show Steps p.tables e below (s₁.setTop (mkF m 71 #[.val (.int i3), .val (.int (n3 + (-2 : Int32)))] [(.int (2 : Int32)), (.int i3)])) _
        refine XS.iushr X0.here hx rfl (hb hby d6_71) rfl ?_
        show Steps p.tables e below (s₁.setTop (mkF m 72 #[.val (.int i3), .val (.int (n3 + (-2 : Int32)))] [(.int ((i3.toUInt32 >>> ((2 : Int32) &&& 31).toUInt32).toInt32))])) _
        refine XS.istoreN X0.here hx rfl (hb hby d6_72) rfl (l' := #[.val (.int ((i3.toUInt32 >>> ((2 : Int32) &&& 31).toUInt32).toInt32)), .val (.int (n3 + (-2 : Int32)))]) rfl ?_
        simp only [if_neg c63] at hd_i4
        rw [hd_i4] at k
        simp only [if_neg c63] at hd_n4
        rw [hd_n4] at k
        exact k)
    have hv : own_nlz p1 = (n4 - ((i4.toUInt32 >>> ((1 : Int32) &&& 31).toUInt32).toInt32)) := by
      rw [show own_nlz p1 = own_chain p1 from if_pos cd1]
      subst hd_n4 hd_i4 hd_n3 hd_i3 hd_n2 hd_i2 hd_n1 hd_i1
      rfl
    have k8 : ∀ t, Steps p.tables e below (s₁.setTop (mkF m 78 #[.val (.int i4), .val (.int n4)] [(.int (n4 - ((i4.toUInt32 >>> ((1 : Int32) &&& 31).toUInt32).toInt32)))])) t → Steps p.tables e below (s₁.setTop (entryFrame m #[(.int p1)] 2)) t := fun t k => k6 t (by
      show Steps p.tables e below (s₁.setTop (mkF m 73 #[.val (.int i4), .val (.int n4)] [])) _
      refine XS.iloadN X0.here hx rfl (hb hby d6_73) rfl ?_
      show Steps p.tables e below (s₁.setTop (mkF m 74 #[.val (.int i4), .val (.int n4)] [(.int n4)])) _
      refine XS.iloadN X0.here hx rfl (hb hby d6_74) rfl ?_
      show Steps p.tables e below (s₁.setTop (mkF m 75 #[.val (.int i4), .val (.int n4)] [(.int i4), (.int n4)])) _
      refine XS.iconst X0.here hx rfl (hb hby d6_75) ?_
      show Steps p.tables e below (s₁.setTop (mkF m 76 #[.val (.int i4), .val (.int n4)] [(.int (1 : Int32)), (.int i4), (.int n4)])) _
      refine XS.iushr X0.here hx rfl (hb hby d6_76) rfl ?_
      show Steps p.tables e below (s₁.setTop (mkF m 77 #[.val (.int i4), .val (.int n4)] [(.int ((i4.toUInt32 >>> ((1 : Int32) &&& 31).toUInt32).toInt32)), (.int n4)])) _
      refine XS.isub X0.here hx rfl (hb hby d6_77) rfl ?_
      exact k)
    obtain ⟨fs, hr, hrun, hended, hW, hsame⟩ := X0.leave (v := some (.int (n4 - ((i4.toUInt32 >>> ((1 : Int32) &&& 31).toUInt32).toInt32)))) (fun h => by rw [Bd.returns] at h; cases h) (BodyLoose.notSynchronized Bd)
    refine ⟨_, _, k8 _ ?_, hrun, hended, _, _, rfl, ?_, ⟨_, rfl⟩, hW, hsame.mono (by decide) (by decide)⟩
    · show Steps p.tables e below (s₁.setTop (mkF m 78 #[.val (.int i4), .val (.int n4)] [(.int (n4 - ((i4.toUInt32 >>> ((1 : Int32) &&& 31).toUInt32).toInt32)))])) _
      exact retI X0 hx Bd.returns (hb hby d6_78) hr
    ·
      show QnlzI _ p1 h0 n0 _ s₁.heap _
      rw [e0]
      exact ⟨by rw [hv], N0, rfl⟩
  ·
    have k9 : ∀ t, Steps p.tables e below (s₁.setTop (mkF m 5 #[.val (.int p1), .unset] [(.int p1)])) t → Steps p.tables e below (s₁.setTop (entryFrame m #[(.int p1)] 2)) t := fun t k => k1 t (by
      show Steps p.tables e below (s₁.setTop (mkF m 1 #[.val (.int p1), .unset] [(.int p1)])) _
      refine XS.ifNo X0.here hx rfl (hb hby d6_1) rfl ((if0 _ _).trans (flt cd1).2.2.1) ?_
      show Steps p.tables e below (s₁.setTop (mkF m 4 #[.val (.int p1), .unset] [])) _
      refine XS.iloadN X0.here hx rfl (hb hby d6_4) rfl ?_
      exact k)
    by_cases cd5 : p1 = (0 : Int32)
    ·
      have hv : own_nlz p1 = (32 : Int32) := (if_neg cd1).trans (if_pos cd5)
      have k11 : ∀ t, Steps p.tables e below (s₁.setTop (mkF m 14 #[.val (.int p1), .unset] [(.int (32 : Int32))])) t → Steps p.tables e below (s₁.setTop (entryFrame m #[(.int p1)] 2)) t := fun t k => k9 t (by
        show Steps p.tables e below (s₁.setTop (mkF m 5 #[.val (.int p1), .unset] [(.int p1)])) _
        refine XS.ifNo X0.here hx rfl (hb hby d6_5) rfl ((if0 _ _).trans (teq cd5).2) ?_
        show Steps p.tables e below (s₁.setTop (mkF m 8 #[.val (.int p1), .unset] [])) _
        refine XS.bipush X0.here hx rfl (hb hby d6_8) ?_
        show Steps p.tables e below (s₁.setTop (mkF m 10 #[.val (.int p1), .unset] [(.int (32 : Int32))])) _
        refine XS.goto X0.here hx rfl (pc0 := 10) (pc' := 14) rfl (hb hby d6_10) (by decide) (by decide) ?_
        exact k)
      obtain ⟨fs, hr, hrun, hended, hW, hsame⟩ := X0.leave (v := some (.int (32 : Int32))) (fun h => by rw [Bd.returns] at h; cases h) (BodyLoose.notSynchronized Bd)
      refine ⟨_, _, k11 _ ?_, hrun, hended, _, _, rfl, ?_, ⟨_, rfl⟩, hW, hsame.mono (by decide) (by decide)⟩
      · show Steps p.tables e below (s₁.setTop (mkF m 14 #[.val (.int p1), .unset] [(.int (32 : Int32))])) _
        exact retI X0 hx Bd.returns (hb hby d6_14) hr
      ·
        show QnlzI _ p1 h0 n0 _ s₁.heap _
        rw [e0]
        exact ⟨by rw [hv], N0, rfl⟩
    ·
      have hv : own_nlz p1 = (0 : Int32) := (if_neg cd1).trans (if_neg cd5)
      have k13 : ∀ t, Steps p.tables e below (s₁.setTop (mkF m 14 #[.val (.int p1), .unset] [(.int (0 : Int32))])) t → Steps p.tables e below (s₁.setTop (entryFrame m #[(.int p1)] 2)) t := fun t k => k9 t (by
        show Steps p.tables e below (s₁.setTop (mkF m 5 #[.val (.int p1), .unset] [(.int p1)])) _
        refine XS.ifYes X0.here hx rfl (pc0 := 5) (pc' := 13) rfl (hb hby d6_5) rfl ((if0 _ _).trans (feq cd5).2) (by decide) (by decide) ?_
        show Steps p.tables e below (s₁.setTop (mkF m 13 #[.val (.int p1), .unset] [])) _
        refine XS.iconst X0.here hx rfl (hb hby d6_13) ?_
        exact k)
      obtain ⟨fs, hr, hrun, hended, hW, hsame⟩ := X0.leave (v := some (.int (0 : Int32))) (fun h => by rw [Bd.returns] at h; cases h) (BodyLoose.notSynchronized Bd)
      refine ⟨_, _, k13 _ ?_, hrun, hended, _, _, rfl, ?_, ⟨_, rfl⟩, hW, hsame.mono (by decide) (by decide)⟩
      · show Steps p.tables e below (s₁.setTop (mkF m 14 #[.val (.int p1), .unset] [(.int (0 : Int32))])) _
        exact retI X0 hx Bd.returns (hb hby d6_14) hr
      ·
        show QnlzI _ p1 h0 n0 _ s₁.heap _
        rw [e0]
        exact ⟨by rw [hv], N0, rfl⟩
theorem pd__I_I : parseMethodDescriptor "(I)I" = some ⟨[.int], some .int⟩ := by decide +kernel
theorem d5_0 : decode jdk_35_method_48_code 0 = .ok (.lload_n 0, 1) := by decide +kernel
theorem d5_1 : decode jdk_35_method_48_code 1 = .ok (.bipush 32, 2) := by decide +kernel
theorem d5_3 : decode jdk_35_method_48_code 3 = .ok (.lushr, 1) := by decide +kernel
theorem d5_4 : decode jdk_35_method_48_code 4 = .ok (.l2i, 1) := by decide +kernel
theorem d5_5 : decode jdk_35_method_48_code 5 = .ok (.istore_n 2, 1) := by decide +kernel
theorem d5_6 : decode jdk_35_method_48_code 6 = .ok (.iload_n 2, 1) := by decide +kernel
theorem d5_7 : decode jdk_35_method_48_code 7 = .ok (.ifCond .ne 14, 3) := by decide +kernel
theorem d5_10 : decode jdk_35_method_48_code 10 = .ok (.bipush 32, 2) := by decide +kernel
theorem d5_12 : decode jdk_35_method_48_code 12 = .ok (.lload_n 0, 1) := by decide +kernel
theorem d5_13 : decode jdk_35_method_48_code 13 = .ok (.l2i, 1) := by decide +kernel
theorem d5_14 : decode jdk_35_method_48_code 14 = .ok (.invokestatic 308, 3) := by decide +kernel
theorem d5_17 : decode jdk_35_method_48_code 17 = .ok (.iadd, 1) := by decide +kernel
theorem d5_18 : decode jdk_35_method_48_code 18 = .ok (.goto 7, 3) := by decide +kernel
theorem d5_21 : decode jdk_35_method_48_code 21 = .ok (.iload_n 2, 1) := by decide +kernel
theorem d5_22 : decode jdk_35_method_48_code 22 = .ok (.invokestatic 308, 3) := by decide +kernel
theorem d5_25 : decode jdk_35_method_48_code 25 = .ok (.ireturn, 1) := by decide +kernel
theorem pn_5 : plainName "java/lang/Long" = true := by first | (simp [plainName, overriddenIn]; done) | decide +kernel
theorem ef_nlzL (m : MethodId) (x0 : Int64) : entryFrame m #[(.long x0)] 3 = mkF m 0 #[.val (.long x0), .second, .unset] [] := by first | (simp [entryFrame, mkF, argsToLocals, Value.category]; done) | rfl
def QnlzL (Z : State) (q1 : Int64) (h0 : Heap) (n0 : Nat) (v : Option Value) (h : Heap) (L : List Loc) : Prop := v = some (.int (own_nlz64 q1)) ∧ Fr n0 L ∧ h = h0
set_option maxRecDepth 65536 in
set_option maxHeartbeats 40000000 in
theorem rm_nlzL (l : Launch) (Z : State) (a0 : Array Value) (hw : ∀ d ∈ tables_1, d.before a0 Z = true) (ws : List Jvm.Cond) (q1 : Int64) (h0 : Heap) (n0 : Nat) (Z0 : n0 ≤ h0.size) :
    MetFree l (⟨"java/lang/Long", "numberOfLeadingZeros", "(J)I"⟩ : MethodName) (head1 (Jvm.Cond.code (⟨"java/lang/Long", "numberOfLeadingZeros", "(J)I"⟩ : MethodName) jdk_35_method_48_code 3 (some .int) :: ws) ({ frames := 1, cells := 0, slots := 0, locals := 14 } : Room)) (fun a U => a = #[(.long q1)] ∧ Z.Warmed39 U.vm ∧ U.heap = h0) (fun _ _ _ _ _ => True) (fun _ U o U' => ∃ v L, o = .returned v ∧ QnlzL Z q1 h0 n0 v U'.heap L ∧ FrameEnd U o U' L ({ frames := 1, cells := 0, slots := 0, locals := 14 } : Room).cells ({ frames := 1, cells := 0, slots := 0, locals := 14 } : Room).slots) := by
  refine MetFree.of_bodySF (plainFor_of_name pn_5) hisR ?_
  intro p e s m args below meth c s₁ Bd hml0 hP hK
  obtain ⟨rfl, hZ, hh⟩ := hP
  have hx := Bd.exec
  have hby := Bd.bytes
  have hml : c.maxLocals = 3 := hml0
  have hown : s.vm.findClass "java/lang/Long" = some m.cls := findClass_of_methodNamed Bd.named
  have hnm := (name_of_methodNamed Bd.named Bd.method).1
  have X0 : Stand p l e ({ frames := 1, cells := 0, slots := 0, locals := 14 } : Room) s m #[(.long q1)] below meth c s₁ [] 0 0 := Stand.of_body Bd
  have e0 : s₁.heap = h0 := by rw [← hh, Bd.state]; rfl
  have N0 := Fr.nil n0
  have k0 : ∀ t, Steps p.tables e below (s₁.setTop (mkF m 0 #[.val (.long q1), .second, .unset] [])) t → Steps p.tables e below (s₁.setTop (entryFrame m #[(.long q1)] 3)) t := fun t k => castTop (ef_nlzL m q1) k
  have k1 : ∀ t, Steps p.tables e below (s₁.setTop (mkF m 6 #[.val (.long q1), .second, .val (.int (((q1.toUInt64 >>> ((32 : Int32) &&& 0x3f).toInt64.toUInt64).toInt64).toInt32))] [])) t → Steps p.tables e below (s₁.setTop (entryFrame m #[(.long q1)] 3)) t := fun t k => k0 t (by
    show Steps p.tables e below (s₁.setTop (mkF m 0 #[.val (.long q1), .second, .unset] [])) _
    refine XS.lloadN X0.here hx rfl (hb hby d5_0) rfl ?_
    show Steps p.tables e below (s₁.setTop (mkF m 1 #[.val (.long q1), .second, .unset] [(.long q1)])) _
    refine XS.bipush X0.here hx rfl (hb hby d5_1) ?_
    show Steps p.tables e below (s₁.setTop (mkF m 3 #[.val (.long q1), .second, .unset] [(.int (32 : Int32)), (.long q1)])) _
    refine XS.lushr X0.here hx rfl (hb hby d5_3) rfl ?_
    show Steps p.tables e below (s₁.setTop (mkF m 4 #[.val (.long q1), .second, .unset] [(.long ((q1.toUInt64 >>> ((32 : Int32) &&& 0x3f).toInt64.toUInt64).toInt64))])) _
    refine XS.l2i X0.here hx rfl (hb hby d5_4) rfl ?_
    show Steps p.tables e below (s₁.setTop (mkF m 5 #[.val (.long q1), .second, .unset] [(.int (((q1.toUInt64 >>> ((32 : Int32) &&& 0x3f).toInt64.toUInt64).toInt64).toInt32))])) _
    refine XS.istoreN X0.here hx rfl (hb hby d5_5) rfl (l' := #[.val (.long q1), .second, .val (.int (((q1.toUInt64 >>> ((32 : Int32) &&& 0x3f).toInt64.toUInt64).toInt64).toInt32))]) rfl ?_
    exact k)
  obtain ⟨hi, hd_hi⟩ : ∃ z : Int32, z = (((q1.toUInt64 >>> ((32 : Int32) &&& 0x3f).toInt64.toUInt64).toInt64).toInt32) := ⟨_, rfl⟩
  have k2 : ∀ t, Steps p.tables e below (s₁.setTop (mkF m 6 #[.val (.long q1), .second, .val (.int hi)] [])) t → Steps p.tables e below (s₁.setTop (entryFrame m #[(.long q1)] 3)) t := by rw [hd_hi]; exact k1
  have k3 : ∀ t, Steps p.tables e below (s₁.setTop (mkF m 7 #[.val (.long q1), .second, .val (.int hi)] [(.int hi)])) t → Steps p.tables e below (s₁.setTop (entryFrame m #[(.long q1)] 3)) t := fun t k => k2 t (by
    show Steps p.tables e below (s₁.setTop (mkF m 6 #[.val (.long q1), .second, .val (.int hi)] [])) _
    refine XS.iloadN X0.here hx rfl (hb hby d5_6) rfl ?_
    exact k)
  by_cases cd7 : hi = (0 : Int32)
  ·
    obtain ⟨_, _, ⟨T4, L4, kk4, n4⟩, -, X4, ⟨Lc4, hQ4, l4, y4, z4⟩, st4⟩ := Jvm.LawKit.callS X0 hx (y := (⟨"java/lang/Integer", "numberOfLeadingZeros", "(I)I"⟩ : MethodName)) hown (mvT hZ (hw _ (List.mem_of_getElem? (i := 30) rfl))) (mvT hZ (hw _ (List.mem_of_getElem? (i := 31) rfl))) (mvT hZ (hw _ (List.mem_of_getElem? (i := 32) rfl))) (mvT hZ (hw _ (List.mem_of_getElem? (i := 33) rfl))) (by decide) (backOf (W := 1) (rm_nlzI l Z a0 hw [] (q1.toInt32) h0 n0 Z0) hZ (hw _ (List.mem_of_getElem? (i := 33) rfl)) (hw _ (List.mem_of_getElem? (i := 32) rfl)) (by decide) (by decide)) (g := (mkF m 14 #[.val (.long q1), .second, .val (.int hi)] [(.int (q1.toInt32)), (.int (32 : Int32))])) rfl (by rw [hml]; rfl) (argsL := [(.int (q1.toInt32))]) (rest := [(.int (32 : Int32))]) (lenOf pd__I_I rfl) rfl (by show 2 * 0 + _ ≤ _; exact Nat.le_of_eq rfl) (hb hby d5_14) (fun _ _ => ⟨rfl, e0, (by decide : 0 + 0 ≤ _), (by decide : 0 + 0 ≤ _)⟩)
    dsimp only [Pt.U, Pt.locs, Pt.cells, Pt.slots] at X4 l4 y4 z4 st4 hQ4
    subst l4 y4 z4
    obtain ⟨rfl, N4q, qa⟩ := hQ4
    have N4 := Fr.app N0 N4q
    have hv : own_nlz64 q1 = ((32 : Int32) + (own_nlz (q1.toInt32))) := by
      have e : own_hi q1 = hi := hd_hi.symm
      show (if own_hi q1 = (0 : Int32) then (32 : Int32) + own_nlz (q1.toInt32) else own_nlz (own_hi q1)) = _
      rw [e]; exact if_pos cd7
    have k6 : ∀ t, Steps p.tables e below (T4.setTop (mkF m 25 #[.val (.long q1), .second, .val (.int hi)] [(.int ((32 : Int32) + (own_nlz (q1.toInt32))))])) t → Steps p.tables e below (s₁.setTop (entryFrame m #[(.long q1)] 3)) t := fun t k => k3 t (by
      show Steps p.tables e below (s₁.setTop (mkF m 7 #[.val (.long q1), .second, .val (.int hi)] [(.int hi)])) _
      refine XS.ifNo X0.here hx rfl (hb hby d5_7) rfl ((if0 _ _).trans (teq cd7).2) ?_
      show Steps p.tables e below (s₁.setTop (mkF m 10 #[.val (.long q1), .second, .val (.int hi)] [])) _
      refine XS.bipush X0.here hx rfl (hb hby d5_10) ?_
      show Steps p.tables e below (s₁.setTop (mkF m 12 #[.val (.long q1), .second, .val (.int hi)] [(.int (32 : Int32))])) _
      refine XS.lloadN X0.here hx rfl (hb hby d5_12) rfl ?_
      show Steps p.tables e below (s₁.setTop (mkF m 13 #[.val (.long q1), .second, .val (.int hi)] [(.long q1), (.int (32 : Int32))])) _
      refine XS.l2i X0.here hx rfl (hb hby d5_13) rfl ?_
      show Steps p.tables e below (s₁.setTop (mkF m 14 #[.val (.long q1), .second, .val (.int hi)] [(.int (q1.toInt32)), (.int (32 : Int32))])) _
      refine st4 _ ?_
      show Steps p.tables e below (T4.setTop (mkF m 17 #[.val (.long q1), .second, .val (.int hi)] [(.int (own_nlz (q1.toInt32))), (.int (32 : Int32))])) _
      refine XS.iadd X4.here hx rfl (hb hby d5_17) rfl ?_
      show Steps p.tables e below (T4.setTop (mkF m 18 #[.val (.long q1), .second, .val (.int hi)] [(.int ((32 : Int32) + (own_nlz (q1.toInt32))))])) _
      refine XS.goto X4.here hx rfl (pc0 := 18) (pc' := 25) rfl (hb hby d5_18) (by decide) (by decide) ?_
      exact k)
    obtain ⟨fs, hr, hrun, hended, hW, hsame⟩ := X4.leave (v := some (.int ((32 : Int32) + (own_nlz (q1.toInt32))))) (fun h => by rw [Bd.returns] at h; cases h) (BodyLoose.notSynchronized Bd)
    refine ⟨_, _, k6 _ ?_, hrun, hended, _, _, rfl, ?_, ⟨_, rfl⟩, hW, hsame.mono (by decide) (by decide)⟩
    · show Steps p.tables e below (T4.setTop (mkF m 25 #[.val (.long q1), .second, .val (.int hi)] [(.int ((32 : Int32) + (own_nlz (q1.toInt32))))])) _
      exact retI X4 hx Bd.returns (hb hby d5_25) hr
    ·
      show QnlzL _ q1 h0 n0 _ T4.heap _
      rw [qa]
      exact ⟨by rw [hv], N4, rfl⟩
  ·
    obtain ⟨_, _, ⟨T7, L7, kk7, n7⟩, -, X7, ⟨Lc7, hQ7, l7, y7, z7⟩, st7⟩ := Jvm.LawKit.callS X0 hx (y := (⟨"java/lang/Integer", "numberOfLeadingZeros", "(I)I"⟩ : MethodName)) hown (mvT hZ (hw _ (List.mem_of_getElem? (i := 30) rfl))) (mvT hZ (hw _ (List.mem_of_getElem? (i := 31) rfl))) (mvT hZ (hw _ (List.mem_of_getElem? (i := 32) rfl))) (mvT hZ (hw _ (List.mem_of_getElem? (i := 33) rfl))) (by decide) (backOf (W := 0) (rm_nlzI l Z a0 hw [] hi h0 n0 Z0) hZ (hw _ (List.mem_of_getElem? (i := 33) rfl)) (hw _ (List.mem_of_getElem? (i := 32) rfl)) (by decide) (by decide)) (g := (mkF m 22 #[.val (.long q1), .second, .val (.int hi)] [(.int hi)])) rfl (by rw [hml]; rfl) (argsL := [(.int hi)]) (rest := []) (lenOf pd__I_I rfl) rfl (by show 2 * 0 + _ ≤ _; exact Nat.le_of_eq rfl) (hb hby d5_22) (fun _ _ => ⟨rfl, e0, (by decide : 0 + 0 ≤ _), (by decide : 0 + 0 ≤ _)⟩)
    dsimp only [Pt.U, Pt.locs, Pt.cells, Pt.slots] at X7 l7 y7 z7 st7 hQ7
    subst l7 y7 z7
    obtain ⟨rfl, N7q, qa⟩ := hQ7
    have N7 := Fr.app N0 N7q
    have hv : own_nlz64 q1 = (own_nlz hi) := by
      have e : own_hi q1 = hi := hd_hi.symm
      show (if own_hi q1 = (0 : Int32) then (32 : Int32) + own_nlz (q1.toInt32) else own_nlz (own_hi q1)) = _
      rw [e]; exact if_neg cd7
    have k9 : ∀ t, Steps p.tables e below (T7.setTop (mkF m 25 #[.val (.long q1), .second, .val (.int hi)] [(.int (own_nlz hi))])) t → Steps p.tables e below (s₁.setTop (entryFrame m #[(.long q1)] 3)) t := fun t k => k3 t (by
      show Steps p.tables e below (s₁.setTop (mkF m 7 #[.val (.long q1), .second, .val (.int hi)] [(.int hi)])) _
      refine XS.ifYes X0.here hx rfl (pc0 := 7) (pc' := 21) rfl (hb hby d5_7) rfl ((if0 _ _).trans (feq cd7).2) (by decide) (by decide) ?_
      show Steps p.tables e below (s₁.setTop (mkF m 21 #[.val (.long q1), .second, .val (.int hi)] [])) _
      refine XS.iloadN X0.here hx rfl (hb hby d5_21) rfl ?_
      show Steps p.tables e below (s₁.setTop (mkF m 22 #[.val (.long q1), .second, .val (.int hi)] [(.int hi)])) _
      refine st7 _ ?_
      exact k)
    obtain ⟨fs, hr, hrun, hended, hW, hsame⟩ := X7.leave (v := some (.int (own_nlz hi))) (fun h => by rw [Bd.returns] at h; cases h) (BodyLoose.notSynchronized Bd)
    refine ⟨_, _, k9 _ ?_, hrun, hended, _, _, rfl, ?_, ⟨_, rfl⟩, hW, hsame.mono (by decide) (by decide)⟩
    · show Steps p.tables e below (T7.setTop (mkF m 25 #[.val (.long q1), .second, .val (.int hi)] [(.int (own_nlz hi))])) _
      exact retI X7 hx Bd.returns (hb hby d5_25) hr
    ·
      show QnlzL _ q1 h0 n0 _ T7.heap _
      rw [qa]
      exact ⟨by rw [hv], N7, rfl⟩
def own_M16 : List Int64 := [-1, -1, -1, -1, -1, -1, -1, -1, -1, -1, -1, -1, -1, -1, -1, -1]
def own_Z16 : List Int32 := [0, 0, 0, 0, 0, 0, 0, 0, 0, 0, 0, 0, 0, 0, 0, 0]
theorem d4_0 : decode jdk_65_method_101_code 0 = .ok (.iconst 0, 1) := by decide +kernel
theorem d4_1 : decode jdk_65_method_101_code 1 = .ok (.istore_n 3, 1) := by decide +kernel
theorem d4_2 : decode jdk_65_method_101_code 2 = .ok (.aload_n 0, 1) := by decide +kernel
theorem d4_3 : decode jdk_65_method_101_code 3 = .ok (.arraylength, 1) := by decide +kernel
theorem d4_4 : decode jdk_65_method_101_code 4 = .ok (.istore 4, 2) := by decide +kernel
theorem d4_6 : decode jdk_65_method_101_code 6 = .ok (.iload_n 3, 1) := by decide +kernel
theorem d4_7 : decode jdk_65_method_101_code 7 = .ok (.iload 4, 2) := by decide +kernel
theorem d4_9 : decode jdk_65_method_101_code 9 = .ok (.if_icmp .ge 13, 3) := by decide +kernel
theorem d4_12 : decode jdk_65_method_101_code 12 = .ok (.aload_n 0, 1) := by decide +kernel
theorem d4_13 : decode jdk_65_method_101_code 13 = .ok (.iload_n 3, 1) := by decide +kernel
theorem d4_14 : decode jdk_65_method_101_code 14 = .ok (.lload_n 1, 1) := by decide +kernel
theorem d4_15 : decode jdk_65_method_101_code 15 = .ok (.lastore, 1) := by decide +kernel
theorem d4_16 : decode jdk_65_method_101_code 16 = .ok (.iinc 3 1, 3) := by decide +kernel
theorem d4_19 : decode jdk_65_method_101_code 19 = .ok (.goto (-13), 3) := by decide +kernel
theorem d4_22 : decode jdk_65_method_101_code 22 = .ok (.return_, 1) := by decide +kernel
theorem pn_4 : plainName "java/util/Arrays" = true := by first | (simp [plainName, overriddenIn]; done) | decide +kernel
theorem ef_fill (m : MethodId) (x0 : Addr) (x1 : Int64) : entryFrame m #[(.ref x0), (.long x1)] 5 = mkF m 0 #[.val (.ref x0), .val (.long x1), .second, .unset, .unset] [] := by first | (simp [entryFrame, mkF, argsToLocals, Value.category]; done) | rfl
def Qfill (Z : State) (a1 : Addr) (q2 : Int64) (kk : ClassId) (h0 : Heap) (n0 : Nat) (v : Option Value) (h : Heap) (L : List Loc) : Prop := v = none ∧ Fr n0 L ∧ Keep h0 h [a1] ∧ Arv Z h a1 kk .long 16 (([q2, q2, q2, q2, q2, q2, q2, q2, q2, q2, q2, q2, q2, q2, q2, q2] : List Int64).map Value.long) (.long 0)
set_option maxRecDepth 65536 in
set_option maxHeartbeats 40000000 in
theorem rm_fill (l : Launch) (Z : State) (a0 : Array Value) (hw : ∀ d ∈ tables_1, d.before a0 Z = true) (ws : List Jvm.Cond) (a1 : Addr) (q2 : Int64) (kk : ClassId) (h0 : Heap) (n0 : Nat) (Z0 : n0 ≤ h0.size) (V1 : Arv Z h0 a1 kk .long 16 (([0, 0, 0, 0, 0, 0, 0, 0, 0, 0, 0, 0, 0, 0, 0, 0] : List Int64).map Value.long) (.long 0)) (g_a1 : n0 ≤ a1) :
    MetFree l (⟨"java/util/Arrays", "fill", "([JJ)V"⟩ : MethodName) (head1 (Jvm.Cond.code (⟨"java/util/Arrays", "fill", "([JJ)V"⟩ : MethodName) jdk_65_method_101_code 5 none :: ws) ({ frames := 0, cells := 0, slots := 0, locals := 0 } : Room)) (fun a U => a = #[(.ref a1), (.long q2)] ∧ Z.Warmed39 U.vm ∧ U.heap = h0) (fun _ _ _ _ _ => True) (fun _ U o U' => ∃ v L, o = .returned v ∧ Qfill Z a1 q2 kk h0 n0 v U'.heap L ∧ FrameEnd U o U' L ({ frames := 0, cells := 0, slots := 0, locals := 0 } : Room).cells ({ frames := 0, cells := 0, slots := 0, locals := 0 } : Room).slots) := by
  refine MetFree.of_bodySF (plainFor_of_name pn_4) hisR ?_
  intro p e s m args below meth c s₁ Bd hml0 hP hK
  obtain ⟨rfl, hZ, hh⟩ := hP
  have hx := Bd.exec
  have hby := Bd.bytes
  have hml : c.maxLocals = 5 := hml0
  have hown : s.vm.findClass "java/util/Arrays" = some m.cls := findClass_of_methodNamed Bd.named
  have hnm := (name_of_methodNamed Bd.named Bd.method).1
  have X0 : Stand p l e ({ frames := 0, cells := 0, slots := 0, locals := 0 } : Room) s m #[(.ref a1), (.long q2)] below meth c s₁ [] 0 0 := Stand.of_body Bd
  have e0 : s₁.heap = h0 := by rw [← hh, Bd.state]; rfl
  have N0 := Fr.nil n0
  have k0 : ∀ t, Steps p.tables e below (s₁.setTop (mkF m 0 #[.val (.ref a1), .val (.long q2), .second, .unset, .unset] [])) t → Steps p.tables e below (s₁.setTop (entryFrame m #[(.ref a1), (.long q2)] 5)) t := fun t k => castTop (ef_fill m a1 q2) k
  obtain ⟨T1, h1, X1, e1, W1, Vn1, st1⟩ := own_stJ X0 hx hZ e0 V1 (j := (0 : Int32)) (by decide) (show (0 : Int32).toNatClampNeg < 16 by decide) (g := (mkF m 15 #[.val (.ref a1), .val (.long q2), .second, .val (.int (0 : Int32)), .val (.int (16 : Int32))] [(.long q2), (.int (0 : Int32)), (.ref a1)])) rfl rfl (hb hby d4_15)
  have N1 := Fr.snoc X1 N0 g_a1
  have V2 : Arv Z h1 a1 kk .long (16 : Int32) ((([0, 0, 0, 0, 0, 0, 0, 0, 0, 0, 0, 0, 0, 0, 0, 0] : List Int64).set (0 : Int32).toNatClampNeg q2).map Value.long) (.long 0) := Vn1
  have K3 : Keep h0 h1 [a1] := (Keep.refl h0 [a1]).wr W1 (Or.inl (List.mem_of_getElem? (i := 0) rfl))
  have ix0 : (0 : Int32).toNatClampNeg = 0 := by decide
  rw [ix0] at V2
  have V4 : Arv Z h1 a1 kk .long (16 : Int32) (([q2, 0, 0, 0, 0, 0, 0, 0, 0, 0, 0, 0, 0, 0, 0, 0] : List Int64).map Value.long) (.long 0) := V2
  have k5 : ∀ t, Steps p.tables e below (T1.setTop (mkF m 19 #[.val (.ref a1), .val (.long q2), .second, .val (.int ((0 : Int32) + (1 : Int32))), .val (.int (16 : Int32))] [])) t → Steps p.tables e below (s₁.setTop (entryFrame m #[(.ref a1), (.long q2)] 5)) t := fun t k => k0 t (by
    show Steps p.tables e below (s₁.setTop (mkF m 0 #[.val (.ref a1), .val (.long q2), .second, .unset, .unset] [])) _
    refine XS.iconst X0.here hx rfl (hb hby d4_0) ?_
    show Steps p.tables e below (s₁.setTop (mkF m 1 #[.val (.ref a1), .val (.long q2), .second, .unset, .unset] [(.int (0 : Int32))])) _
    refine XS.istoreN X0.here hx rfl (hb hby d4_1) rfl (l' := #[.val (.ref a1), .val (.long q2), .second, .val (.int (0 : Int32)), .unset]) rfl ?_
    show Steps p.tables e below (s₁.setTop (mkF m 2 #[.val (.ref a1), .val (.long q2), .second, .val (.int (0 : Int32)), .unset] [])) _
    refine XS.aloadN X0.here hx rfl (hb hby d4_2) rfl rfl ?_
    show Steps p.tables e below (s₁.setTop (mkF m 3 #[.val (.ref a1), .val (.long q2), .second, .val (.int (0 : Int32)), .unset] [(.ref a1)])) _
    refine own_len X0 hx hZ e0 V1 (g := (mkF m 3 #[.val (.ref a1), .val (.long q2), .second, .val (.int (0 : Int32)), .unset] [(.ref a1)])) rfl rfl (hb hby d4_3) _ ?_
    show Steps p.tables e below (s₁.setTop (mkF m 4 #[.val (.ref a1), .val (.long q2), .second, .val (.int (0 : Int32)), .unset] [(.int (16 : Int32))])) _
    refine XS.istore X0.here hx rfl (hb hby d4_4) rfl (l' := #[.val (.ref a1), .val (.long q2), .second, .val (.int (0 : Int32)), .val (.int (16 : Int32))]) rfl ?_
    show Steps p.tables e below (s₁.setTop (mkF m 6 #[.val (.ref a1), .val (.long q2), .second, .val (.int (0 : Int32)), .val (.int (16 : Int32))] [])) _
    refine XS.iloadN X0.here hx rfl (hb hby d4_6) rfl ?_
    show Steps p.tables e below (s₁.setTop (mkF m 7 #[.val (.ref a1), .val (.long q2), .second, .val (.int (0 : Int32)), .val (.int (16 : Int32))] [(.int (0 : Int32))])) _
    refine XS.iload X0.here hx rfl (hb hby d4_7) rfl ?_
    show Steps p.tables e below (s₁.setTop (mkF m 9 #[.val (.ref a1), .val (.long q2), .second, .val (.int (0 : Int32)), .val (.int (16 : Int32))] [(.int (16 : Int32)), (.int (0 : Int32))])) _
    refine XS.icmpNo X0.here hx rfl (hb hby d4_9) rfl (tlt (by decide)).2.1 ?_
    show Steps p.tables e below (s₁.setTop (mkF m 12 #[.val (.ref a1), .val (.long q2), .second, .val (.int (0 : Int32)), .val (.int (16 : Int32))] [])) _
    refine XS.aloadN X0.here hx rfl (hb hby d4_12) rfl rfl ?_
    show Steps p.tables e below (s₁.setTop (mkF m 13 #[.val (.ref a1), .val (.long q2), .second, .val (.int (0 : Int32)), .val (.int (16 : Int32))] [(.ref a1)])) _
    refine XS.iloadN X0.here hx rfl (hb hby d4_13) rfl ?_
    show Steps p.tables e below (s₁.setTop (mkF m 14 #[.val (.ref a1), .val (.long q2), .second, .val (.int (0 : Int32)), .val (.int (16 : Int32))] [(.int (0 : Int32)), (.ref a1)])) _
    refine XS.lloadN X0.here hx rfl (hb hby d4_14) rfl ?_
    show Steps p.tables e below (s₁.setTop (mkF m 15 #[.val (.ref a1), .val (.long q2), .second, .val (.int (0 : Int32)), .val (.int (16 : Int32))] [(.long q2), (.int (0 : Int32)), (.ref a1)])) _
    refine st1 _ ?_
    show Steps p.tables e below (T1.setTop (mkF m 16 #[.val (.ref a1), .val (.long q2), .second, .val (.int (0 : Int32)), .val (.int (16 : Int32))] [])) _
    refine XS.iinc X1.here hx rfl (hb hby d4_16) rfl (l' := #[.val (.ref a1), .val (.long q2), .second, .val (.int ((0 : Int32) + (1 : Int32))), .val (.int (16 : Int32))]) rfl ?_
    exact k)
  have qk6 : ((0 : Int32) + (1 : Int32)) = (1 : Int32) := by decide
  have k6 : ∀ t, Steps p.tables e below (T1.setTop (mkF m 19 #[.val (.ref a1), .val (.long q2), .second, .val (.int (1 : Int32)), .val (.int (16 : Int32))] [])) t → Steps p.tables e below (s₁.setTop (entryFrame m #[(.ref a1), (.long q2)] 5)) t := by rw [qk6] at k5; exact k5
  obtain ⟨T7, h7, X7, e7, W7, Vn7, st7⟩ := own_stJ X1 hx hZ e1 V4 (j := (1 : Int32)) (by decide) (show (1 : Int32).toNatClampNeg < 16 by decide) (g := (mkF m 15 #[.val (.ref a1), .val (.long q2), .second, .val (.int (1 : Int32)), .val (.int (16 : Int32))] [(.long q2), (.int (1 : Int32)), (.ref a1)])) rfl rfl (hb hby d4_15)
  have N7 := Fr.snoc X7 N1 g_a1
  have V8 : Arv Z h7 a1 kk .long (16 : Int32) ((([q2, 0, 0, 0, 0, 0, 0, 0, 0, 0, 0, 0, 0, 0, 0, 0] : List Int64).set (1 : Int32).toNatClampNeg q2).map Value.long) (.long 0) := Vn7
  have K9 : Keep h0 h7 [a1] := K3.wr W7 (Or.inl (List.mem_of_getElem? (i := 0) rfl))
  have ix1 : (1 : Int32).toNatClampNeg = 1 := by decide
  rw [ix1] at V8
  have V10 : Arv Z h7 a1 kk .long (16 : Int32) (([q2, q2, 0, 0, 0, 0, 0, 0, 0, 0, 0, 0, 0, 0, 0, 0] : List Int64).map Value.long) (.long 0) := V8
  have k11 : ∀ t, Steps p.tables e below (T7.setTop (mkF m 19 #[.val (.ref a1), .val (.long q2), .second, .val (.int ((1 : Int32) + (1 : Int32))), .val (.int (16 : Int32))] [])) t → Steps p.tables e below (s₁.setTop (entryFrame m #[(.ref a1), (.long q2)] 5)) t := fun t k => k6 t (by
    show Steps p.tables e below (T1.setTop (mkF m 19 #[.val (.ref a1), .val (.long q2), .second, .val (.int (1 : Int32)), .val (.int (16 : Int32))] [])) _
    refine XS.goto X1.here hx rfl (pc0 := 19) (pc' := 6) rfl (hb hby d4_19) (by decide) (by decide) ?_
    show Steps p.tables e below (T1.setTop (mkF m 6 #[.val (.ref a1), .val (.long q2), .second, .val (.int (1 : Int32)), .val (.int (16 : Int32))] [])) _
    refine XS.iloadN X1.here hx rfl (hb hby d4_6) rfl ?_
    show Steps p.tables e below (T1.setTop (mkF m 7 #[.val (.ref a1), .val (.long q2), .second, .val (.int (1 : Int32)), .val (.int (16 : Int32))] [(.int (1 : Int32))])) _
    refine XS.iload X1.here hx rfl (hb hby d4_7) rfl ?_
    show Steps p.tables e below (T1.setTop (mkF m 9 #[.val (.ref a1), .val (.long q2), .second, .val (.int (1 : Int32)), .val (.int (16 : Int32))] [(.int (16 : Int32)), (.int (1 : Int32))])) _
    refine XS.icmpNo X1.here hx rfl (hb hby d4_9) rfl (tlt (by decide)).2.1 ?_
    show Steps p.tables e below (T1.setTop (mkF m 12 #[.val (.ref a1), .val (.long q2), .second, .val (.int (1 : Int32)), .val (.int (16 : Int32))] [])) _
    refine XS.aloadN X1.here hx rfl (hb hby d4_12) rfl rfl ?_
    show Steps p.tables e below (T1.setTop (mkF m 13 #[.val (.ref a1), .val (.long q2), .second, .val (.int (1 : Int32)), .val (.int (16 : Int32))] [(.ref a1)])) _
    refine XS.iloadN X1.here hx rfl (hb hby d4_13) rfl ?_
    show Steps p.tables e below (T1.setTop (mkF m 14 #[.val (.ref a1), .val (.long q2), .second, .val (.int (1 : Int32)), .val (.int (16 : Int32))] [(.int (1 : Int32)), (.ref a1)])) _
    refine XS.lloadN X1.here hx rfl (hb hby d4_14) rfl ?_
    show Steps p.tables e below (T1.setTop (mkF m 15 #[.val (.ref a1), .val (.long q2), .second, .val (.int (1 : Int32)), .val (.int (16 : Int32))] [(.long q2), (.int (1 : Int32)), (.ref a1)])) _
    refine st7 _ ?_
    show Steps p.tables e below (T7.setTop (mkF m 16 #[.val (.ref a1), .val (.long q2), .second, .val (.int (1 : Int32)), .val (.int (16 : Int32))] [])) _
    refine XS.iinc X7.here hx rfl (hb hby d4_16) rfl (l' := #[.val (.ref a1), .val (.long q2), .second, .val (.int ((1 : Int32) + (1 : Int32))), .val (.int (16 : Int32))]) rfl ?_
    exact k)
  have qk12 : ((1 : Int32) + (1 : Int32)) = (2 : Int32) := by decide
  have k12 : ∀ t, Steps p.tables e below (T7.setTop (mkF m 19 #[.val (.ref a1), .val (.long q2), .second, .val (.int (2 : Int32)), .val (.int (16 : Int32))] [])) t → Steps p.tables e below (s₁.setTop (entryFrame m #[(.ref a1), (.long q2)] 5)) t := by rw [qk12] at k11; exact k11
  obtain ⟨T13, h13, X13, e13, W13, Vn13, st13⟩ := own_stJ X7 hx hZ e7 V10 (j := (2 : Int32)) (by decide) (show (2 : Int32).toNatClampNeg < 16 by decide) (g := (mkF m 15 #[.val (.ref a1), .val (.long q2), .second, .val (.int (2 : Int32)), .val (.int (16 : Int32))] [(.long q2), (.int (2 : Int32)), (.ref a1)])) rfl rfl (hb hby d4_15)
  have N13 := Fr.snoc X13 N7 g_a1
  have V14 : Arv Z h13 a1 kk .long (16 : Int32) ((([q2, q2, 0, 0, 0, 0, 0, 0, 0, 0, 0, 0, 0, 0, 0, 0] : List Int64).set (2 : Int32).toNatClampNeg q2).map Value.long) (.long 0) := Vn13
  have K15 : Keep h0 h13 [a1] := K9.wr W13 (Or.inl (List.mem_of_getElem? (i := 0) rfl))
  have ix2 : (2 : Int32).toNatClampNeg = 2 := by decide
  rw [ix2] at V14
  have V16 : Arv Z h13 a1 kk .long (16 : Int32) (([q2, q2, q2, 0, 0, 0, 0, 0, 0, 0, 0, 0, 0, 0, 0, 0] : List Int64).map Value.long) (.long 0) := V14
  have k17 : ∀ t, Steps p.tables e below (T13.setTop (mkF m 19 #[.val (.ref a1), .val (.long q2), .second, .val (.int ((2 : Int32) + (1 : Int32))), .val (.int (16 : Int32))] [])) t → Steps p.tables e below (s₁.setTop (entryFrame m #[(.ref a1), (.long q2)] 5)) t := fun t k => k12 t (by
    show Steps p.tables e below (T7.setTop (mkF m 19 #[.val (.ref a1), .val (.long q2), .second, .val (.int (2 : Int32)), .val (.int (16 : Int32))] [])) _
    refine XS.goto X7.here hx rfl (pc0 := 19) (pc' := 6) rfl (hb hby d4_19) (by decide) (by decide) ?_
    show Steps p.tables e below (T7.setTop (mkF m 6 #[.val (.ref a1), .val (.long q2), .second, .val (.int (2 : Int32)), .val (.int (16 : Int32))] [])) _
    refine XS.iloadN X7.here hx rfl (hb hby d4_6) rfl ?_
    show Steps p.tables e below (T7.setTop (mkF m 7 #[.val (.ref a1), .val (.long q2), .second, .val (.int (2 : Int32)), .val (.int (16 : Int32))] [(.int (2 : Int32))])) _
    refine XS.iload X7.here hx rfl (hb hby d4_7) rfl ?_
    show Steps p.tables e below (T7.setTop (mkF m 9 #[.val (.ref a1), .val (.long q2), .second, .val (.int (2 : Int32)), .val (.int (16 : Int32))] [(.int (16 : Int32)), (.int (2 : Int32))])) _
    refine XS.icmpNo X7.here hx rfl (hb hby d4_9) rfl (tlt (by decide)).2.1 ?_
    show Steps p.tables e below (T7.setTop (mkF m 12 #[.val (.ref a1), .val (.long q2), .second, .val (.int (2 : Int32)), .val (.int (16 : Int32))] [])) _
    refine XS.aloadN X7.here hx rfl (hb hby d4_12) rfl rfl ?_
    show Steps p.tables e below (T7.setTop (mkF m 13 #[.val (.ref a1), .val (.long q2), .second, .val (.int (2 : Int32)), .val (.int (16 : Int32))] [(.ref a1)])) _
    refine XS.iloadN X7.here hx rfl (hb hby d4_13) rfl ?_
    show Steps p.tables e below (T7.setTop (mkF m 14 #[.val (.ref a1), .val (.long q2), .second, .val (.int (2 : Int32)), .val (.int (16 : Int32))] [(.int (2 : Int32)), (.ref a1)])) _
    refine XS.lloadN X7.here hx rfl (hb hby d4_14) rfl ?_
    show Steps p.tables e below (T7.setTop (mkF m 15 #[.val (.ref a1), .val (.long q2), .second, .val (.int (2 : Int32)), .val (.int (16 : Int32))] [(.long q2), (.int (2 : Int32)), (.ref a1)])) _
    refine st13 _ ?_
    show Steps p.tables e below (T13.setTop (mkF m 16 #[.val (.ref a1), .val (.long q2), .second, .val (.int (2 : Int32)), .val (.int (16 : Int32))] [])) _
    refine XS.iinc X13.here hx rfl (hb hby d4_16) rfl (l' := #[.val (.ref a1), .val (.long q2), .second, .val (.int ((2 : Int32) + (1 : Int32))), .val (.int (16 : Int32))]) rfl ?_
    exact k)
  have qk18 : ((2 : Int32) + (1 : Int32)) = (3 : Int32) := by decide
  have k18 : ∀ t, Steps p.tables e below (T13.setTop (mkF m 19 #[.val (.ref a1), .val (.long q2), .second, .val (.int (3 : Int32)), .val (.int (16 : Int32))] [])) t → Steps p.tables e below (s₁.setTop (entryFrame m #[(.ref a1), (.long q2)] 5)) t := by rw [qk18] at k17; exact k17
  obtain ⟨T19, h19, X19, e19, W19, Vn19, st19⟩ := own_stJ X13 hx hZ e13 V16 (j := (3 : Int32)) (by decide) (show (3 : Int32).toNatClampNeg < 16 by decide) (g := (mkF m 15 #[.val (.ref a1), .val (.long q2), .second, .val (.int (3 : Int32)), .val (.int (16 : Int32))] [(.long q2), (.int (3 : Int32)), (.ref a1)])) rfl rfl (hb hby d4_15)
  have N19 := Fr.snoc X19 N13 g_a1
  have V20 : Arv Z h19 a1 kk .long (16 : Int32) ((([q2, q2, q2, 0, 0, 0, 0, 0, 0, 0, 0, 0, 0, 0, 0, 0] : List Int64).set (3 : Int32).toNatClampNeg q2).map Value.long) (.long 0) := Vn19
  have K21 : Keep h0 h19 [a1] := K15.wr W19 (Or.inl (List.mem_of_getElem? (i := 0) rfl))
  have ix3 : (3 : Int32).toNatClampNeg = 3 := by decide
  rw [ix3] at V20
  have V22 : Arv Z h19 a1 kk .long (16 : Int32) (([q2, q2, q2, q2, 0, 0, 0, 0, 0, 0, 0, 0, 0, 0, 0, 0] : List Int64).map Value.long) (.long 0) := V20
  have k23 : ∀ t, Steps p.tables e below (T19.setTop (mkF m 19 #[.val (.ref a1), .val (.long q2), .second, .val (.int ((3 : Int32) + (1 : Int32))), .val (.int (16 : Int32))] [])) t → Steps p.tables e below (s₁.setTop (entryFrame m #[(.ref a1), (.long q2)] 5)) t := fun t k => k18 t (by
    show Steps p.tables e below (T13.setTop (mkF m 19 #[.val (.ref a1), .val (.long q2), .second, .val (.int (3 : Int32)), .val (.int (16 : Int32))] [])) _
    refine XS.goto X13.here hx rfl (pc0 := 19) (pc' := 6) rfl (hb hby d4_19) (by decide) (by decide) ?_
    show Steps p.tables e below (T13.setTop (mkF m 6 #[.val (.ref a1), .val (.long q2), .second, .val (.int (3 : Int32)), .val (.int (16 : Int32))] [])) _
    refine XS.iloadN X13.here hx rfl (hb hby d4_6) rfl ?_
    show Steps p.tables e below (T13.setTop (mkF m 7 #[.val (.ref a1), .val (.long q2), .second, .val (.int (3 : Int32)), .val (.int (16 : Int32))] [(.int (3 : Int32))])) _
    refine XS.iload X13.here hx rfl (hb hby d4_7) rfl ?_
    show Steps p.tables e below (T13.setTop (mkF m 9 #[.val (.ref a1), .val (.long q2), .second, .val (.int (3 : Int32)), .val (.int (16 : Int32))] [(.int (16 : Int32)), (.int (3 : Int32))])) _
    refine XS.icmpNo X13.here hx rfl (hb hby d4_9) rfl (tlt (by decide)).2.1 ?_
    show Steps p.tables e below (T13.setTop (mkF m 12 #[.val (.ref a1), .val (.long q2), .second, .val (.int (3 : Int32)), .val (.int (16 : Int32))] [])) _
    refine XS.aloadN X13.here hx rfl (hb hby d4_12) rfl rfl ?_
    show Steps p.tables e below (T13.setTop (mkF m 13 #[.val (.ref a1), .val (.long q2), .second, .val (.int (3 : Int32)), .val (.int (16 : Int32))] [(.ref a1)])) _
    refine XS.iloadN X13.here hx rfl (hb hby d4_13) rfl ?_
    show Steps p.tables e below (T13.setTop (mkF m 14 #[.val (.ref a1), .val (.long q2), .second, .val (.int (3 : Int32)), .val (.int (16 : Int32))] [(.int (3 : Int32)), (.ref a1)])) _
    refine XS.lloadN X13.here hx rfl (hb hby d4_14) rfl ?_
    show Steps p.tables e below (T13.setTop (mkF m 15 #[.val (.ref a1), .val (.long q2), .second, .val (.int (3 : Int32)), .val (.int (16 : Int32))] [(.long q2), (.int (3 : Int32)), (.ref a1)])) _
    refine st19 _ ?_
    show Steps p.tables e below (T19.setTop (mkF m 16 #[.val (.ref a1), .val (.long q2), .second, .val (.int (3 : Int32)), .val (.int (16 : Int32))] [])) _
    refine XS.iinc X19.here hx rfl (hb hby d4_16) rfl (l' := #[.val (.ref a1), .val (.long q2), .second, .val (.int ((3 : Int32) + (1 : Int32))), .val (.int (16 : Int32))]) rfl ?_
    exact k)
  have qk24 : ((3 : Int32) + (1 : Int32)) = (4 : Int32) := by decide
  have k24 : ∀ t, Steps p.tables e below (T19.setTop (mkF m 19 #[.val (.ref a1), .val (.long q2), .second, .val (.int (4 : Int32)), .val (.int (16 : Int32))] [])) t → Steps p.tables e below (s₁.setTop (entryFrame m #[(.ref a1), (.long q2)] 5)) t := by rw [qk24] at k23; exact k23
  obtain ⟨T25, h25, X25, e25, W25, Vn25, st25⟩ := own_stJ X19 hx hZ e19 V22 (j := (4 : Int32)) (by decide) (show (4 : Int32).toNatClampNeg < 16 by decide) (g := (mkF m 15 #[.val (.ref a1), .val (.long q2), .second, .val (.int (4 : Int32)), .val (.int (16 : Int32))] [(.long q2), (.int (4 : Int32)), (.ref a1)])) rfl rfl (hb hby d4_15)
  have N25 := Fr.snoc X25 N19 g_a1
  have V26 : Arv Z h25 a1 kk .long (16 : Int32) ((([q2, q2, q2, q2, 0, 0, 0, 0, 0, 0, 0, 0, 0, 0, 0, 0] : List Int64).set (4 : Int32).toNatClampNeg q2).map Value.long) (.long 0) := Vn25
  have K27 : Keep h0 h25 [a1] := K21.wr W25 (Or.inl (List.mem_of_getElem? (i := 0) rfl))
  have ix4 : (4 : Int32).toNatClampNeg = 4 := by decide
  rw [ix4] at V26
  have V28 : Arv Z h25 a1 kk .long (16 : Int32) (([q2, q2, q2, q2, q2, 0, 0, 0, 0, 0, 0, 0, 0, 0, 0, 0] : List Int64).map Value.long) (.long 0) := V26
  have k29 : ∀ t, Steps p.tables e below (T25.setTop (mkF m 19 #[.val (.ref a1), .val (.long q2), .second, .val (.int ((4 : Int32) + (1 : Int32))), .val (.int (16 : Int32))] [])) t → Steps p.tables e below (s₁.setTop (entryFrame m #[(.ref a1), (.long q2)] 5)) t := fun t k => k24 t (by
    show Steps p.tables e below (T19.setTop (mkF m 19 #[.val (.ref a1), .val (.long q2), .second, .val (.int (4 : Int32)), .val (.int (16 : Int32))] [])) _
    refine XS.goto X19.here hx rfl (pc0 := 19) (pc' := 6) rfl (hb hby d4_19) (by decide) (by decide) ?_
    show Steps p.tables e below (T19.setTop (mkF m 6 #[.val (.ref a1), .val (.long q2), .second, .val (.int (4 : Int32)), .val (.int (16 : Int32))] [])) _
    refine XS.iloadN X19.here hx rfl (hb hby d4_6) rfl ?_
    show Steps p.tables e below (T19.setTop (mkF m 7 #[.val (.ref a1), .val (.long q2), .second, .val (.int (4 : Int32)), .val (.int (16 : Int32))] [(.int (4 : Int32))])) _
    refine XS.iload X19.here hx rfl (hb hby d4_7) rfl ?_
    show Steps p.tables e below (T19.setTop (mkF m 9 #[.val (.ref a1), .val (.long q2), .second, .val (.int (4 : Int32)), .val (.int (16 : Int32))] [(.int (16 : Int32)), (.int (4 : Int32))])) _
    refine XS.icmpNo X19.here hx rfl (hb hby d4_9) rfl (tlt (by decide)).2.1 ?_
    show Steps p.tables e below (T19.setTop (mkF m 12 #[.val (.ref a1), .val (.long q2), .second, .val (.int (4 : Int32)), .val (.int (16 : Int32))] [])) _
    refine XS.aloadN X19.here hx rfl (hb hby d4_12) rfl rfl ?_
    show Steps p.tables e below (T19.setTop (mkF m 13 #[.val (.ref a1), .val (.long q2), .second, .val (.int (4 : Int32)), .val (.int (16 : Int32))] [(.ref a1)])) _
    refine XS.iloadN X19.here hx rfl (hb hby d4_13) rfl ?_
    show Steps p.tables e below (T19.setTop (mkF m 14 #[.val (.ref a1), .val (.long q2), .second, .val (.int (4 : Int32)), .val (.int (16 : Int32))] [(.int (4 : Int32)), (.ref a1)])) _
    refine XS.lloadN X19.here hx rfl (hb hby d4_14) rfl ?_
    show Steps p.tables e below (T19.setTop (mkF m 15 #[.val (.ref a1), .val (.long q2), .second, .val (.int (4 : Int32)), .val (.int (16 : Int32))] [(.long q2), (.int (4 : Int32)), (.ref a1)])) _
    refine st25 _ ?_
    show Steps p.tables e below (T25.setTop (mkF m 16 #[.val (.ref a1), .val (.long q2), .second, .val (.int (4 : Int32)), .val (.int (16 : Int32))] [])) _
    refine XS.iinc X25.here hx rfl (hb hby d4_16) rfl (l' := #[.val (.ref a1), .val (.long q2), .second, .val (.int ((4 : Int32) + (1 : Int32))), .val (.int (16 : Int32))]) rfl ?_
    exact k)
  have qk30 : ((4 : Int32) + (1 : Int32)) = (5 : Int32) := by decide
  have k30 : ∀ t, Steps p.tables e below (T25.setTop (mkF m 19 #[.val (.ref a1), .val (.long q2), .second, .val (.int (5 : Int32)), .val (.int (16 : Int32))] [])) t → Steps p.tables e below (s₁.setTop (entryFrame m #[(.ref a1), (.long q2)] 5)) t := by rw [qk30] at k29; exact k29
  obtain ⟨T31, h31, X31, e31, W31, Vn31, st31⟩ := own_stJ X25 hx hZ e25 V28 (j := (5 : Int32)) (by decide) (show (5 : Int32).toNatClampNeg < 16 by decide) (g := (mkF m 15 #[.val (.ref a1), .val (.long q2), .second, .val (.int (5 : Int32)), .val (.int (16 : Int32))] [(.long q2), (.int (5 : Int32)), (.ref a1)])) rfl rfl (hb hby d4_15)
  have N31 := Fr.snoc X31 N25 g_a1
  have V32 : Arv Z h31 a1 kk .long (16 : Int32) ((([q2, q2, q2, q2, q2, 0, 0, 0, 0, 0, 0, 0, 0, 0, 0, 0] : List Int64).set (5 : Int32).toNatClampNeg q2).map Value.long) (.long 0) := Vn31
  have K33 : Keep h0 h31 [a1] := K27.wr W31 (Or.inl (List.mem_of_getElem? (i := 0) rfl))
  have ix5 : (5 : Int32).toNatClampNeg = 5 := by decide
  rw [ix5] at V32
  have V34 : Arv Z h31 a1 kk .long (16 : Int32) (([q2, q2, q2, q2, q2, q2, 0, 0, 0, 0, 0, 0, 0, 0, 0, 0] : List Int64).map Value.long) (.long 0) := V32
  have k35 : ∀ t, Steps p.tables e below (T31.setTop (mkF m 19 #[.val (.ref a1), .val (.long q2), .second, .val (.int ((5 : Int32) + (1 : Int32))), .val (.int (16 : Int32))] [])) t → Steps p.tables e below (s₁.setTop (entryFrame m #[(.ref a1), (.long q2)] 5)) t := fun t k => k30 t (by
    show Steps p.tables e below (T25.setTop (mkF m 19 #[.val (.ref a1), .val (.long q2), .second, .val (.int (5 : Int32)), .val (.int (16 : Int32))] [])) _
    refine XS.goto X25.here hx rfl (pc0 := 19) (pc' := 6) rfl (hb hby d4_19) (by decide) (by decide) ?_
    show Steps p.tables e below (T25.setTop (mkF m 6 #[.val (.ref a1), .val (.long q2), .second, .val (.int (5 : Int32)), .val (.int (16 : Int32))] [])) _
    refine XS.iloadN X25.here hx rfl (hb hby d4_6) rfl ?_
    show Steps p.tables e below (T25.setTop (mkF m 7 #[.val (.ref a1), .val (.long q2), .second, .val (.int (5 : Int32)), .val (.int (16 : Int32))] [(.int (5 : Int32))])) _
    refine XS.iload X25.here hx rfl (hb hby d4_7) rfl ?_
    show Steps p.tables e below (T25.setTop (mkF m 9 #[.val (.ref a1), .val (.long q2), .second, .val (.int (5 : Int32)), .val (.int (16 : Int32))] [(.int (16 : Int32)), (.int (5 : Int32))])) _
    refine XS.icmpNo X25.here hx rfl (hb hby d4_9) rfl (tlt (by decide)).2.1 ?_
    show Steps p.tables e below (T25.setTop (mkF m 12 #[.val (.ref a1), .val (.long q2), .second, .val (.int (5 : Int32)), .val (.int (16 : Int32))] [])) _
    refine XS.aloadN X25.here hx rfl (hb hby d4_12) rfl rfl ?_
    show Steps p.tables e below (T25.setTop (mkF m 13 #[.val (.ref a1), .val (.long q2), .second, .val (.int (5 : Int32)), .val (.int (16 : Int32))] [(.ref a1)])) _
    refine XS.iloadN X25.here hx rfl (hb hby d4_13) rfl ?_
    show Steps p.tables e below (T25.setTop (mkF m 14 #[.val (.ref a1), .val (.long q2), .second, .val (.int (5 : Int32)), .val (.int (16 : Int32))] [(.int (5 : Int32)), (.ref a1)])) _
    refine XS.lloadN X25.here hx rfl (hb hby d4_14) rfl ?_
    show Steps p.tables e below (T25.setTop (mkF m 15 #[.val (.ref a1), .val (.long q2), .second, .val (.int (5 : Int32)), .val (.int (16 : Int32))] [(.long q2), (.int (5 : Int32)), (.ref a1)])) _
    refine st31 _ ?_
    show Steps p.tables e below (T31.setTop (mkF m 16 #[.val (.ref a1), .val (.long q2), .second, .val (.int (5 : Int32)), .val (.int (16 : Int32))] [])) _
    refine XS.iinc X31.here hx rfl (hb hby d4_16) rfl (l' := #[.val (.ref a1), .val (.long q2), .second, .val (.int ((5 : Int32) + (1 : Int32))), .val (.int (16 : Int32))]) rfl ?_
    exact k)
  have qk36 : ((5 : Int32) + (1 : Int32)) = (6 : Int32) := by decide
  have k36 : ∀ t, Steps p.tables e below (T31.setTop (mkF m 19 #[.val (.ref a1), .val (.long q2), .second, .val (.int (6 : Int32)), .val (.int (16 : Int32))] [])) t → Steps p.tables e below (s₁.setTop (entryFrame m #[(.ref a1), (.long q2)] 5)) t := by rw [qk36] at k35; exact k35
  obtain ⟨T37, h37, X37, e37, W37, Vn37, st37⟩ := own_stJ X31 hx hZ e31 V34 (j := (6 : Int32)) (by decide) (show (6 : Int32).toNatClampNeg < 16 by decide) (g := (mkF m 15 #[.val (.ref a1), .val (.long q2), .second, .val (.int (6 : Int32)), .val (.int (16 : Int32))] [(.long q2), (.int (6 : Int32)), (.ref a1)])) rfl rfl (hb hby d4_15)
  have N37 := Fr.snoc X37 N31 g_a1
  have V38 : Arv Z h37 a1 kk .long (16 : Int32) ((([q2, q2, q2, q2, q2, q2, 0, 0, 0, 0, 0, 0, 0, 0, 0, 0] : List Int64).set (6 : Int32).toNatClampNeg q2).map Value.long) (.long 0) := Vn37
  have K39 : Keep h0 h37 [a1] := K33.wr W37 (Or.inl (List.mem_of_getElem? (i := 0) rfl))
  have ix6 : (6 : Int32).toNatClampNeg = 6 := by decide
  rw [ix6] at V38
  have V40 : Arv Z h37 a1 kk .long (16 : Int32) (([q2, q2, q2, q2, q2, q2, q2, 0, 0, 0, 0, 0, 0, 0, 0, 0] : List Int64).map Value.long) (.long 0) := V38
  have k41 : ∀ t, Steps p.tables e below (T37.setTop (mkF m 19 #[.val (.ref a1), .val (.long q2), .second, .val (.int ((6 : Int32) + (1 : Int32))), .val (.int (16 : Int32))] [])) t → Steps p.tables e below (s₁.setTop (entryFrame m #[(.ref a1), (.long q2)] 5)) t := fun t k => k36 t (by
    show Steps p.tables e below (T31.setTop (mkF m 19 #[.val (.ref a1), .val (.long q2), .second, .val (.int (6 : Int32)), .val (.int (16 : Int32))] [])) _
    refine XS.goto X31.here hx rfl (pc0 := 19) (pc' := 6) rfl (hb hby d4_19) (by decide) (by decide) ?_
    show Steps p.tables e below (T31.setTop (mkF m 6 #[.val (.ref a1), .val (.long q2), .second, .val (.int (6 : Int32)), .val (.int (16 : Int32))] [])) _
    refine XS.iloadN X31.here hx rfl (hb hby d4_6) rfl ?_
    show Steps p.tables e below (T31.setTop (mkF m 7 #[.val (.ref a1), .val (.long q2), .second, .val (.int (6 : Int32)), .val (.int (16 : Int32))] [(.int (6 : Int32))])) _
    refine XS.iload X31.here hx rfl (hb hby d4_7) rfl ?_
    show Steps p.tables e below (T31.setTop (mkF m 9 #[.val (.ref a1), .val (.long q2), .second, .val (.int (6 : Int32)), .val (.int (16 : Int32))] [(.int (16 : Int32)), (.int (6 : Int32))])) _
    refine XS.icmpNo X31.here hx rfl (hb hby d4_9) rfl (tlt (by decide)).2.1 ?_
    show Steps p.tables e below (T31.setTop (mkF m 12 #[.val (.ref a1), .val (.long q2), .second, .val (.int (6 : Int32)), .val (.int (16 : Int32))] [])) _
    refine XS.aloadN X31.here hx rfl (hb hby d4_12) rfl rfl ?_
    show Steps p.tables e below (T31.setTop (mkF m 13 #[.val (.ref a1), .val (.long q2), .second, .val (.int (6 : Int32)), .val (.int (16 : Int32))] [(.ref a1)])) _
    refine XS.iloadN X31.here hx rfl (hb hby d4_13) rfl ?_
    show Steps p.tables e below (T31.setTop (mkF m 14 #[.val (.ref a1), .val (.long q2), .second, .val (.int (6 : Int32)), .val (.int (16 : Int32))] [(.int (6 : Int32)), (.ref a1)])) _
    refine XS.lloadN X31.here hx rfl (hb hby d4_14) rfl ?_
    show Steps p.tables e below (T31.setTop (mkF m 15 #[.val (.ref a1), .val (.long q2), .second, .val (.int (6 : Int32)), .val (.int (16 : Int32))] [(.long q2), (.int (6 : Int32)), (.ref a1)])) _
    refine st37 _ ?_
    show Steps p.tables e below (T37.setTop (mkF m 16 #[.val (.ref a1), .val (.long q2), .second, .val (.int (6 : Int32)), .val (.int (16 : Int32))] [])) _
    refine XS.iinc X37.here hx rfl (hb hby d4_16) rfl (l' := #[.val (.ref a1), .val (.long q2), .second, .val (.int ((6 : Int32) + (1 : Int32))), .val (.int (16 : Int32))]) rfl ?_
    exact k)
  have qk42 : ((6 : Int32) + (1 : Int32)) = (7 : Int32) := by decide
  have k42 : ∀ t, Steps p.tables e below (T37.setTop (mkF m 19 #[.val (.ref a1), .val (.long q2), .second, .val (.int (7 : Int32)), .val (.int (16 : Int32))] [])) t → Steps p.tables e below (s₁.setTop (entryFrame m #[(.ref a1), (.long q2)] 5)) t := by rw [qk42] at k41; exact k41
  obtain ⟨T43, h43, X43, e43, W43, Vn43, st43⟩ := own_stJ X37 hx hZ e37 V40 (j := (7 : Int32)) (by decide) (show (7 : Int32).toNatClampNeg < 16 by decide) (g := (mkF m 15 #[.val (.ref a1), .val (.long q2), .second, .val (.int (7 : Int32)), .val (.int (16 : Int32))] [(.long q2), (.int (7 : Int32)), (.ref a1)])) rfl rfl (hb hby d4_15)
  have N43 := Fr.snoc X43 N37 g_a1
  have V44 : Arv Z h43 a1 kk .long (16 : Int32) ((([q2, q2, q2, q2, q2, q2, q2, 0, 0, 0, 0, 0, 0, 0, 0, 0] : List Int64).set (7 : Int32).toNatClampNeg q2).map Value.long) (.long 0) := Vn43
  have K45 : Keep h0 h43 [a1] := K39.wr W43 (Or.inl (List.mem_of_getElem? (i := 0) rfl))
  have ix7 : (7 : Int32).toNatClampNeg = 7 := by decide
  rw [ix7] at V44
  have V46 : Arv Z h43 a1 kk .long (16 : Int32) (([q2, q2, q2, q2, q2, q2, q2, q2, 0, 0, 0, 0, 0, 0, 0, 0] : List Int64).map Value.long) (.long 0) := V44
  have k47 : ∀ t, Steps p.tables e below (T43.setTop (mkF m 19 #[.val (.ref a1), .val (.long q2), .second, .val (.int ((7 : Int32) + (1 : Int32))), .val (.int (16 : Int32))] [])) t → Steps p.tables e below (s₁.setTop (entryFrame m #[(.ref a1), (.long q2)] 5)) t := fun t k => k42 t (by
    show Steps p.tables e below (T37.setTop (mkF m 19 #[.val (.ref a1), .val (.long q2), .second, .val (.int (7 : Int32)), .val (.int (16 : Int32))] [])) _
    refine XS.goto X37.here hx rfl (pc0 := 19) (pc' := 6) rfl (hb hby d4_19) (by decide) (by decide) ?_
    show Steps p.tables e below (T37.setTop (mkF m 6 #[.val (.ref a1), .val (.long q2), .second, .val (.int (7 : Int32)), .val (.int (16 : Int32))] [])) _
    refine XS.iloadN X37.here hx rfl (hb hby d4_6) rfl ?_
    show Steps p.tables e below (T37.setTop (mkF m 7 #[.val (.ref a1), .val (.long q2), .second, .val (.int (7 : Int32)), .val (.int (16 : Int32))] [(.int (7 : Int32))])) _
    refine XS.iload X37.here hx rfl (hb hby d4_7) rfl ?_
    show Steps p.tables e below (T37.setTop (mkF m 9 #[.val (.ref a1), .val (.long q2), .second, .val (.int (7 : Int32)), .val (.int (16 : Int32))] [(.int (16 : Int32)), (.int (7 : Int32))])) _
    refine XS.icmpNo X37.here hx rfl (hb hby d4_9) rfl (tlt (by decide)).2.1 ?_
    show Steps p.tables e below (T37.setTop (mkF m 12 #[.val (.ref a1), .val (.long q2), .second, .val (.int (7 : Int32)), .val (.int (16 : Int32))] [])) _
    refine XS.aloadN X37.here hx rfl (hb hby d4_12) rfl rfl ?_
    show Steps p.tables e below (T37.setTop (mkF m 13 #[.val (.ref a1), .val (.long q2), .second, .val (.int (7 : Int32)), .val (.int (16 : Int32))] [(.ref a1)])) _
    refine XS.iloadN X37.here hx rfl (hb hby d4_13) rfl ?_
    show Steps p.tables e below (T37.setTop (mkF m 14 #[.val (.ref a1), .val (.long q2), .second, .val (.int (7 : Int32)), .val (.int (16 : Int32))] [(.int (7 : Int32)), (.ref a1)])) _
    refine XS.lloadN X37.here hx rfl (hb hby d4_14) rfl ?_
    show Steps p.tables e below (T37.setTop (mkF m 15 #[.val (.ref a1), .val (.long q2), .second, .val (.int (7 : Int32)), .val (.int (16 : Int32))] [(.long q2), (.int (7 : Int32)), (.ref a1)])) _
    refine st43 _ ?_
    show Steps p.tables e below (T43.setTop (mkF m 16 #[.val (.ref a1), .val (.long q2), .second, .val (.int (7 : Int32)), .val (.int (16 : Int32))] [])) _
    refine XS.iinc X43.here hx rfl (hb hby d4_16) rfl (l' := #[.val (.ref a1), .val (.long q2), .second, .val (.int ((7 : Int32) + (1 : Int32))), .val (.int (16 : Int32))]) rfl ?_
    exact k)
  have qk48 : ((7 : Int32) + (1 : Int32)) = (8 : Int32) := by decide
  have k48 : ∀ t, Steps p.tables e below (T43.setTop (mkF m 19 #[.val (.ref a1), .val (.long q2), .second, .val (.int (8 : Int32)), .val (.int (16 : Int32))] [])) t → Steps p.tables e below (s₁.setTop (entryFrame m #[(.ref a1), (.long q2)] 5)) t := by rw [qk48] at k47; exact k47
  obtain ⟨T49, h49, X49, e49, W49, Vn49, st49⟩ := own_stJ X43 hx hZ e43 V46 (j := (8 : Int32)) (by decide) (show (8 : Int32).toNatClampNeg < 16 by decide) (g := (mkF m 15 #[.val (.ref a1), .val (.long q2), .second, .val (.int (8 : Int32)), .val (.int (16 : Int32))] [(.long q2), (.int (8 : Int32)), (.ref a1)])) rfl rfl (hb hby d4_15)
  have N49 := Fr.snoc X49 N43 g_a1
  have V50 : Arv Z h49 a1 kk .long (16 : Int32) ((([q2, q2, q2, q2, q2, q2, q2, q2, 0, 0, 0, 0, 0, 0, 0, 0] : List Int64).set (8 : Int32).toNatClampNeg q2).map Value.long) (.long 0) := Vn49
  have K51 : Keep h0 h49 [a1] := K45.wr W49 (Or.inl (List.mem_of_getElem? (i := 0) rfl))
  have ix8 : (8 : Int32).toNatClampNeg = 8 := by decide
  rw [ix8] at V50
  have V52 : Arv Z h49 a1 kk .long (16 : Int32) (([q2, q2, q2, q2, q2, q2, q2, q2, q2, 0, 0, 0, 0, 0, 0, 0] : List Int64).map Value.long) (.long 0) := V50
  have k53 : ∀ t, Steps p.tables e below (T49.setTop (mkF m 19 #[.val (.ref a1), .val (.long q2), .second, .val (.int ((8 : Int32) + (1 : Int32))), .val (.int (16 : Int32))] [])) t → Steps p.tables e below (s₁.setTop (entryFrame m #[(.ref a1), (.long q2)] 5)) t := fun t k => k48 t (by
    show Steps p.tables e below (T43.setTop (mkF m 19 #[.val (.ref a1), .val (.long q2), .second, .val (.int (8 : Int32)), .val (.int (16 : Int32))] [])) _
    refine XS.goto X43.here hx rfl (pc0 := 19) (pc' := 6) rfl (hb hby d4_19) (by decide) (by decide) ?_
    show Steps p.tables e below (T43.setTop (mkF m 6 #[.val (.ref a1), .val (.long q2), .second, .val (.int (8 : Int32)), .val (.int (16 : Int32))] [])) _
    refine XS.iloadN X43.here hx rfl (hb hby d4_6) rfl ?_
    show Steps p.tables e below (T43.setTop (mkF m 7 #[.val (.ref a1), .val (.long q2), .second, .val (.int (8 : Int32)), .val (.int (16 : Int32))] [(.int (8 : Int32))])) _
    refine XS.iload X43.here hx rfl (hb hby d4_7) rfl ?_
    show Steps p.tables e below (T43.setTop (mkF m 9 #[.val (.ref a1), .val (.long q2), .second, .val (.int (8 : Int32)), .val (.int (16 : Int32))] [(.int (16 : Int32)), (.int (8 : Int32))])) _
    refine XS.icmpNo X43.here hx rfl (hb hby d4_9) rfl (tlt (by decide)).2.1 ?_
    show Steps p.tables e below (T43.setTop (mkF m 12 #[.val (.ref a1), .val (.long q2), .second, .val (.int (8 : Int32)), .val (.int (16 : Int32))] [])) _
    refine XS.aloadN X43.here hx rfl (hb hby d4_12) rfl rfl ?_
    show Steps p.tables e below (T43.setTop (mkF m 13 #[.val (.ref a1), .val (.long q2), .second, .val (.int (8 : Int32)), .val (.int (16 : Int32))] [(.ref a1)])) _
    refine XS.iloadN X43.here hx rfl (hb hby d4_13) rfl ?_
    show Steps p.tables e below (T43.setTop (mkF m 14 #[.val (.ref a1), .val (.long q2), .second, .val (.int (8 : Int32)), .val (.int (16 : Int32))] [(.int (8 : Int32)), (.ref a1)])) _
    refine XS.lloadN X43.here hx rfl (hb hby d4_14) rfl ?_
    show Steps p.tables e below (T43.setTop (mkF m 15 #[.val (.ref a1), .val (.long q2), .second, .val (.int (8 : Int32)), .val (.int (16 : Int32))] [(.long q2), (.int (8 : Int32)), (.ref a1)])) _
    refine st49 _ ?_
    show Steps p.tables e below (T49.setTop (mkF m 16 #[.val (.ref a1), .val (.long q2), .second, .val (.int (8 : Int32)), .val (.int (16 : Int32))] [])) _
    refine XS.iinc X49.here hx rfl (hb hby d4_16) rfl (l' := #[.val (.ref a1), .val (.long q2), .second, .val (.int ((8 : Int32) + (1 : Int32))), .val (.int (16 : Int32))]) rfl ?_
    exact k)
  have qk54 : ((8 : Int32) + (1 : Int32)) = (9 : Int32) := by decide
  have k54 : ∀ t, Steps p.tables e below (T49.setTop (mkF m 19 #[.val (.ref a1), .val (.long q2), .second, .val (.int (9 : Int32)), .val (.int (16 : Int32))] [])) t → Steps p.tables e below (s₁.setTop (entryFrame m #[(.ref a1), (.long q2)] 5)) t := by rw [qk54] at k53; exact k53
  obtain ⟨T55, h55, X55, e55, W55, Vn55, st55⟩ := own_stJ X49 hx hZ e49 V52 (j := (9 : Int32)) (by decide) (show (9 : Int32).toNatClampNeg < 16 by decide) (g := (mkF m 15 #[.val (.ref a1), .val (.long q2), .second, .val (.int (9 : Int32)), .val (.int (16 : Int32))] [(.long q2), (.int (9 : Int32)), (.ref a1)])) rfl rfl (hb hby d4_15)
  have N55 := Fr.snoc X55 N49 g_a1
  have V56 : Arv Z h55 a1 kk .long (16 : Int32) ((([q2, q2, q2, q2, q2, q2, q2, q2, q2, 0, 0, 0, 0, 0, 0, 0] : List Int64).set (9 : Int32).toNatClampNeg q2).map Value.long) (.long 0) := Vn55
  have K57 : Keep h0 h55 [a1] := K51.wr W55 (Or.inl (List.mem_of_getElem? (i := 0) rfl))
  have ix9 : (9 : Int32).toNatClampNeg = 9 := by decide
  rw [ix9] at V56
  have V58 : Arv Z h55 a1 kk .long (16 : Int32) (([q2, q2, q2, q2, q2, q2, q2, q2, q2, q2, 0, 0, 0, 0, 0, 0] : List Int64).map Value.long) (.long 0) := V56
  have k59 : ∀ t, Steps p.tables e below (T55.setTop (mkF m 19 #[.val (.ref a1), .val (.long q2), .second, .val (.int ((9 : Int32) + (1 : Int32))), .val (.int (16 : Int32))] [])) t → Steps p.tables e below (s₁.setTop (entryFrame m #[(.ref a1), (.long q2)] 5)) t := fun t k => k54 t (by
    show Steps p.tables e below (T49.setTop (mkF m 19 #[.val (.ref a1), .val (.long q2), .second, .val (.int (9 : Int32)), .val (.int (16 : Int32))] [])) _
    refine XS.goto X49.here hx rfl (pc0 := 19) (pc' := 6) rfl (hb hby d4_19) (by decide) (by decide) ?_
    show Steps p.tables e below (T49.setTop (mkF m 6 #[.val (.ref a1), .val (.long q2), .second, .val (.int (9 : Int32)), .val (.int (16 : Int32))] [])) _
    refine XS.iloadN X49.here hx rfl (hb hby d4_6) rfl ?_
    show Steps p.tables e below (T49.setTop (mkF m 7 #[.val (.ref a1), .val (.long q2), .second, .val (.int (9 : Int32)), .val (.int (16 : Int32))] [(.int (9 : Int32))])) _
    refine XS.iload X49.here hx rfl (hb hby d4_7) rfl ?_
    show Steps p.tables e below (T49.setTop (mkF m 9 #[.val (.ref a1), .val (.long q2), .second, .val (.int (9 : Int32)), .val (.int (16 : Int32))] [(.int (16 : Int32)), (.int (9 : Int32))])) _
    refine XS.icmpNo X49.here hx rfl (hb hby d4_9) rfl (tlt (by decide)).2.1 ?_
    show Steps p.tables e below (T49.setTop (mkF m 12 #[.val (.ref a1), .val (.long q2), .second, .val (.int (9 : Int32)), .val (.int (16 : Int32))] [])) _
    refine XS.aloadN X49.here hx rfl (hb hby d4_12) rfl rfl ?_
    show Steps p.tables e below (T49.setTop (mkF m 13 #[.val (.ref a1), .val (.long q2), .second, .val (.int (9 : Int32)), .val (.int (16 : Int32))] [(.ref a1)])) _
    refine XS.iloadN X49.here hx rfl (hb hby d4_13) rfl ?_
    show Steps p.tables e below (T49.setTop (mkF m 14 #[.val (.ref a1), .val (.long q2), .second, .val (.int (9 : Int32)), .val (.int (16 : Int32))] [(.int (9 : Int32)), (.ref a1)])) _
    refine XS.lloadN X49.here hx rfl (hb hby d4_14) rfl ?_
    show Steps p.tables e below (T49.setTop (mkF m 15 #[.val (.ref a1), .val (.long q2), .second, .val (.int (9 : Int32)), .val (.int (16 : Int32))] [(.long q2), (.int (9 : Int32)), (.ref a1)])) _
    refine st55 _ ?_
    show Steps p.tables e below (T55.setTop (mkF m 16 #[.val (.ref a1), .val (.long q2), .second, .val (.int (9 : Int32)), .val (.int (16 : Int32))] [])) _
    refine XS.iinc X55.here hx rfl (hb hby d4_16) rfl (l' := #[.val (.ref a1), .val (.long q2), .second, .val (.int ((9 : Int32) + (1 : Int32))), .val (.int (16 : Int32))]) rfl ?_
    exact k)
  have qk60 : ((9 : Int32) + (1 : Int32)) = (10 : Int32) := by decide
  have k60 : ∀ t, Steps p.tables e below (T55.setTop (mkF m 19 #[.val (.ref a1), .val (.long q2), .second, .val (.int (10 : Int32)), .val (.int (16 : Int32))] [])) t → Steps p.tables e below (s₁.setTop (entryFrame m #[(.ref a1), (.long q2)] 5)) t := by rw [qk60] at k59; exact k59
  obtain ⟨T61, h61, X61, e61, W61, Vn61, st61⟩ := own_stJ X55 hx hZ e55 V58 (j := (10 : Int32)) (by decide) (show (10 : Int32).toNatClampNeg < 16 by decide) (g := (mkF m 15 #[.val (.ref a1), .val (.long q2), .second, .val (.int (10 : Int32)), .val (.int (16 : Int32))] [(.long q2), (.int (10 : Int32)), (.ref a1)])) rfl rfl (hb hby d4_15)
  have N61 := Fr.snoc X61 N55 g_a1
  have V62 : Arv Z h61 a1 kk .long (16 : Int32) ((([q2, q2, q2, q2, q2, q2, q2, q2, q2, q2, 0, 0, 0, 0, 0, 0] : List Int64).set (10 : Int32).toNatClampNeg q2).map Value.long) (.long 0) := Vn61
  have K63 : Keep h0 h61 [a1] := K57.wr W61 (Or.inl (List.mem_of_getElem? (i := 0) rfl))
  have ix10 : (10 : Int32).toNatClampNeg = 10 := by decide
  rw [ix10] at V62
  have V64 : Arv Z h61 a1 kk .long (16 : Int32) (([q2, q2, q2, q2, q2, q2, q2, q2, q2, q2, q2, 0, 0, 0, 0, 0] : List Int64).map Value.long) (.long 0) := V62
  have k65 : ∀ t, Steps p.tables e below (T61.setTop (mkF m 19 #[.val (.ref a1), .val (.long q2), .second, .val (.int ((10 : Int32) + (1 : Int32))), .val (.int (16 : Int32))] [])) t → Steps p.tables e below (s₁.setTop (entryFrame m #[(.ref a1), (.long q2)] 5)) t := fun t k => k60 t (by
    show Steps p.tables e below (T55.setTop (mkF m 19 #[.val (.ref a1), .val (.long q2), .second, .val (.int (10 : Int32)), .val (.int (16 : Int32))] [])) _
    refine XS.goto X55.here hx rfl (pc0 := 19) (pc' := 6) rfl (hb hby d4_19) (by decide) (by decide) ?_
    show Steps p.tables e below (T55.setTop (mkF m 6 #[.val (.ref a1), .val (.long q2), .second, .val (.int (10 : Int32)), .val (.int (16 : Int32))] [])) _
    refine XS.iloadN X55.here hx rfl (hb hby d4_6) rfl ?_
    show Steps p.tables e below (T55.setTop (mkF m 7 #[.val (.ref a1), .val (.long q2), .second, .val (.int (10 : Int32)), .val (.int (16 : Int32))] [(.int (10 : Int32))])) _
    refine XS.iload X55.here hx rfl (hb hby d4_7) rfl ?_
    show Steps p.tables e below (T55.setTop (mkF m 9 #[.val (.ref a1), .val (.long q2), .second, .val (.int (10 : Int32)), .val (.int (16 : Int32))] [(.int (16 : Int32)), (.int (10 : Int32))])) _
    refine XS.icmpNo X55.here hx rfl (hb hby d4_9) rfl (tlt (by decide)).2.1 ?_
    show Steps p.tables e below (T55.setTop (mkF m 12 #[.val (.ref a1), .val (.long q2), .second, .val (.int (10 : Int32)), .val (.int (16 : Int32))] [])) _
    refine XS.aloadN X55.here hx rfl (hb hby d4_12) rfl rfl ?_
    show Steps p.tables e below (T55.setTop (mkF m 13 #[.val (.ref a1), .val (.long q2), .second, .val (.int (10 : Int32)), .val (.int (16 : Int32))] [(.ref a1)])) _
    refine XS.iloadN X55.here hx rfl (hb hby d4_13) rfl ?_
    show Steps p.tables e below (T55.setTop (mkF m 14 #[.val (.ref a1), .val (.long q2), .second, .val (.int (10 : Int32)), .val (.int (16 : Int32))] [(.int (10 : Int32)), (.ref a1)])) _
    refine XS.lloadN X55.here hx rfl (hb hby d4_14) rfl ?_
    show Steps p.tables e below (T55.setTop (mkF m 15 #[.val (.ref a1), .val (.long q2), .second, .val (.int (10 : Int32)), .val (.int (16 : Int32))] [(.long q2), (.int (10 : Int32)), (.ref a1)])) _
    refine st61 _ ?_
    show Steps p.tables e below (T61.setTop (mkF m 16 #[.val (.ref a1), .val (.long q2), .second, .val (.int (10 : Int32)), .val (.int (16 : Int32))] [])) _
    refine XS.iinc X61.here hx rfl (hb hby d4_16) rfl (l' := #[.val (.ref a1), .val (.long q2), .second, .val (.int ((10 : Int32) + (1 : Int32))), .val (.int (16 : Int32))]) rfl ?_
    exact k)
  have qk66 : ((10 : Int32) + (1 : Int32)) = (11 : Int32) := by decide
  have k66 : ∀ t, Steps p.tables e below (T61.setTop (mkF m 19 #[.val (.ref a1), .val (.long q2), .second, .val (.int (11 : Int32)), .val (.int (16 : Int32))] [])) t → Steps p.tables e below (s₁.setTop (entryFrame m #[(.ref a1), (.long q2)] 5)) t := by rw [qk66] at k65; exact k65
  obtain ⟨T67, h67, X67, e67, W67, Vn67, st67⟩ := own_stJ X61 hx hZ e61 V64 (j := (11 : Int32)) (by decide) (show (11 : Int32).toNatClampNeg < 16 by decide) (g := (mkF m 15 #[.val (.ref a1), .val (.long q2), .second, .val (.int (11 : Int32)), .val (.int (16 : Int32))] [(.long q2), (.int (11 : Int32)), (.ref a1)])) rfl rfl (hb hby d4_15)
  have N67 := Fr.snoc X67 N61 g_a1
  have V68 : Arv Z h67 a1 kk .long (16 : Int32) ((([q2, q2, q2, q2, q2, q2, q2, q2, q2, q2, q2, 0, 0, 0, 0, 0] : List Int64).set (11 : Int32).toNatClampNeg q2).map Value.long) (.long 0) := Vn67
  have K69 : Keep h0 h67 [a1] := K63.wr W67 (Or.inl (List.mem_of_getElem? (i := 0) rfl))
  have ix11 : (11 : Int32).toNatClampNeg = 11 := by decide
  rw [ix11] at V68
  have V70 : Arv Z h67 a1 kk .long (16 : Int32) (([q2, q2, q2, q2, q2, q2, q2, q2, q2, q2, q2, q2, 0, 0, 0, 0] : List Int64).map Value.long) (.long 0) := V68
  have k71 : ∀ t, Steps p.tables e below (T67.setTop (mkF m 19 #[.val (.ref a1), .val (.long q2), .second, .val (.int ((11 : Int32) + (1 : Int32))), .val (.int (16 : Int32))] [])) t → Steps p.tables e below (s₁.setTop (entryFrame m #[(.ref a1), (.long q2)] 5)) t := fun t k => k66 t (by
    show Steps p.tables e below (T61.setTop (mkF m 19 #[.val (.ref a1), .val (.long q2), .second, .val (.int (11 : Int32)), .val (.int (16 : Int32))] [])) _
    refine XS.goto X61.here hx rfl (pc0 := 19) (pc' := 6) rfl (hb hby d4_19) (by decide) (by decide) ?_
    show Steps p.tables e below (T61.setTop (mkF m 6 #[.val (.ref a1), .val (.long q2), .second, .val (.int (11 : Int32)), .val (.int (16 : Int32))] [])) _
    refine XS.iloadN X61.here hx rfl (hb hby d4_6) rfl ?_
    show Steps p.tables e below (T61.setTop (mkF m 7 #[.val (.ref a1), .val (.long q2), .second, .val (.int (11 : Int32)), .val (.int (16 : Int32))] [(.int (11 : Int32))])) _
    refine XS.iload X61.here hx rfl (hb hby d4_7) rfl ?_
    show Steps p.tables e below (T61.setTop (mkF m 9 #[.val (.ref a1), .val (.long q2), .second, .val (.int (11 : Int32)), .val (.int (16 : Int32))] [(.int (16 : Int32)), (.int (11 : Int32))])) _
    refine XS.icmpNo X61.here hx rfl (hb hby d4_9) rfl (tlt (by decide)).2.1 ?_
    show Steps p.tables e below (T61.setTop (mkF m 12 #[.val (.ref a1), .val (.long q2), .second, .val (.int (11 : Int32)), .val (.int (16 : Int32))] [])) _
    refine XS.aloadN X61.here hx rfl (hb hby d4_12) rfl rfl ?_
    show Steps p.tables e below (T61.setTop (mkF m 13 #[.val (.ref a1), .val (.long q2), .second, .val (.int (11 : Int32)), .val (.int (16 : Int32))] [(.ref a1)])) _
    refine XS.iloadN X61.here hx rfl (hb hby d4_13) rfl ?_
    show Steps p.tables e below (T61.setTop (mkF m 14 #[.val (.ref a1), .val (.long q2), .second, .val (.int (11 : Int32)), .val (.int (16 : Int32))] [(.int (11 : Int32)), (.ref a1)])) _
    refine XS.lloadN X61.here hx rfl (hb hby d4_14) rfl ?_
    show Steps p.tables e below (T61.setTop (mkF m 15 #[.val (.ref a1), .val (.long q2), .second, .val (.int (11 : Int32)), .val (.int (16 : Int32))] [(.long q2), (.int (11 : Int32)), (.ref a1)])) _
    refine st67 _ ?_
    show Steps p.tables e below (T67.setTop (mkF m 16 #[.val (.ref a1), .val (.long q2), .second, .val (.int (11 : Int32)), .val (.int (16 : Int32))] [])) _
    refine XS.iinc X67.here hx rfl (hb hby d4_16) rfl (l' := #[.val (.ref a1), .val (.long q2), .second, .val (.int ((11 : Int32) + (1 : Int32))), .val (.int (16 : Int32))]) rfl ?_
    exact k)
  have qk72 : ((11 : Int32) + (1 : Int32)) = (12 : Int32) := by decide
  have k72 : ∀ t, Steps p.tables e below (T67.setTop (mkF m 19 #[.val (.ref a1), .val (.long q2), .second, .val (.int (12 : Int32)), .val (.int (16 : Int32))] [])) t → Steps p.tables e below (s₁.setTop (entryFrame m #[(.ref a1), (.long q2)] 5)) t := by rw [qk72] at k71; exact k71
  obtain ⟨T73, h73, X73, e73, W73, Vn73, st73⟩ := own_stJ X67 hx hZ e67 V70 (j := (12 : Int32)) (by decide) (show (12 : Int32).toNatClampNeg < 16 by decide) (g := (mkF m 15 #[.val (.ref a1), .val (.long q2), .second, .val (.int (12 : Int32)), .val (.int (16 : Int32))] [(.long q2), (.int (12 : Int32)), (.ref a1)])) rfl rfl (hb hby d4_15)
  have N73 := Fr.snoc X73 N67 g_a1
  have V74 : Arv Z h73 a1 kk .long (16 : Int32) ((([q2, q2, q2, q2, q2, q2, q2, q2, q2, q2, q2, q2, 0, 0, 0, 0] : List Int64).set (12 : Int32).toNatClampNeg q2).map Value.long) (.long 0) := Vn73
  have K75 : Keep h0 h73 [a1] := K69.wr W73 (Or.inl (List.mem_of_getElem? (i := 0) rfl))
  have ix12 : (12 : Int32).toNatClampNeg = 12 := by decide
  rw [ix12] at V74
  have V76 : Arv Z h73 a1 kk .long (16 : Int32) (([q2, q2, q2, q2, q2, q2, q2, q2, q2, q2, q2, q2, q2, 0, 0, 0] : List Int64).map Value.long) (.long 0) := V74
  have k77 : ∀ t, Steps p.tables e below (T73.setTop (mkF m 19 #[.val (.ref a1), .val (.long q2), .second, .val (.int ((12 : Int32) + (1 : Int32))), .val (.int (16 : Int32))] [])) t → Steps p.tables e below (s₁.setTop (entryFrame m #[(.ref a1), (.long q2)] 5)) t := fun t k => k72 t (by
    show Steps p.tables e below (T67.setTop (mkF m 19 #[.val (.ref a1), .val (.long q2), .second, .val (.int (12 : Int32)), .val (.int (16 : Int32))] [])) _
    refine XS.goto X67.here hx rfl (pc0 := 19) (pc' := 6) rfl (hb hby d4_19) (by decide) (by decide) ?_
    show Steps p.tables e below (T67.setTop (mkF m 6 #[.val (.ref a1), .val (.long q2), .second, .val (.int (12 : Int32)), .val (.int (16 : Int32))] [])) _
    refine XS.iloadN X67.here hx rfl (hb hby d4_6) rfl ?_
    show Steps p.tables e below (T67.setTop (mkF m 7 #[.val (.ref a1), .val (.long q2), .second, .val (.int (12 : Int32)), .val (.int (16 : Int32))] [(.int (12 : Int32))])) _
    refine XS.iload X67.here hx rfl (hb hby d4_7) rfl ?_
    show Steps p.tables e below (T67.setTop (mkF m 9 #[.val (.ref a1), .val (.long q2), .second, .val (.int (12 : Int32)), .val (.int (16 : Int32))] [(.int (16 : Int32)), (.int (12 : Int32))])) _
    refine XS.icmpNo X67.here hx rfl (hb hby d4_9) rfl (tlt (by decide)).2.1 ?_
    show Steps p.tables e below (T67.setTop (mkF m 12 #[.val (.ref a1), .val (.long q2), .second, .val (.int (12 : Int32)), .val (.int (16 : Int32))] [])) _
    refine XS.aloadN X67.here hx rfl (hb hby d4_12) rfl rfl ?_
    show Steps p.tables e below (T67.setTop (mkF m 13 #[.val (.ref a1), .val (.long q2), .second, .val (.int (12 : Int32)), .val (.int (16 : Int32))] [(.ref a1)])) _
    refine XS.iloadN X67.here hx rfl (hb hby d4_13) rfl ?_
    show Steps p.tables e below (T67.setTop (mkF m 14 #[.val (.ref a1), .val (.long q2), .second, .val (.int (12 : Int32)), .val (.int (16 : Int32))] [(.int (12 : Int32)), (.ref a1)])) _
    refine XS.lloadN X67.here hx rfl (hb hby d4_14) rfl ?_
    show Steps p.tables e below (T67.setTop (mkF m 15 #[.val (.ref a1), .val (.long q2), .second, .val (.int (12 : Int32)), .val (.int (16 : Int32))] [(.long q2), (.int (12 : Int32)), (.ref a1)])) _
    refine st73 _ ?_
    show Steps p.tables e below (T73.setTop (mkF m 16 #[.val (.ref a1), .val (.long q2), .second, .val (.int (12 : Int32)), .val (.int (16 : Int32))] [])) _
    refine XS.iinc X73.here hx rfl (hb hby d4_16) rfl (l' := #[.val (.ref a1), .val (.long q2), .second, .val (.int ((12 : Int32) + (1 : Int32))), .val (.int (16 : Int32))]) rfl ?_
    exact k)
  have qk78 : ((12 : Int32) + (1 : Int32)) = (13 : Int32) := by decide
  have k78 : ∀ t, Steps p.tables e below (T73.setTop (mkF m 19 #[.val (.ref a1), .val (.long q2), .second, .val (.int (13 : Int32)), .val (.int (16 : Int32))] [])) t → Steps p.tables e below (s₁.setTop (entryFrame m #[(.ref a1), (.long q2)] 5)) t := by rw [qk78] at k77; exact k77
  obtain ⟨T79, h79, X79, e79, W79, Vn79, st79⟩ := own_stJ X73 hx hZ e73 V76 (j := (13 : Int32)) (by decide) (show (13 : Int32).toNatClampNeg < 16 by decide) (g := (mkF m 15 #[.val (.ref a1), .val (.long q2), .second, .val (.int (13 : Int32)), .val (.int (16 : Int32))] [(.long q2), (.int (13 : Int32)), (.ref a1)])) rfl rfl (hb hby d4_15)
  have N79 := Fr.snoc X79 N73 g_a1
  have V80 : Arv Z h79 a1 kk .long (16 : Int32) ((([q2, q2, q2, q2, q2, q2, q2, q2, q2, q2, q2, q2, q2, 0, 0, 0] : List Int64).set (13 : Int32).toNatClampNeg q2).map Value.long) (.long 0) := Vn79
  have K81 : Keep h0 h79 [a1] := K75.wr W79 (Or.inl (List.mem_of_getElem? (i := 0) rfl))
  have ix13 : (13 : Int32).toNatClampNeg = 13 := by decide
  rw [ix13] at V80
  have V82 : Arv Z h79 a1 kk .long (16 : Int32) (([q2, q2, q2, q2, q2, q2, q2, q2, q2, q2, q2, q2, q2, q2, 0, 0] : List Int64).map Value.long) (.long 0) := V80
  have k83 : ∀ t, Steps p.tables e below (T79.setTop (mkF m 19 #[.val (.ref a1), .val (.long q2), .second, .val (.int ((13 : Int32) + (1 : Int32))), .val (.int (16 : Int32))] [])) t → Steps p.tables e below (s₁.setTop (entryFrame m #[(.ref a1), (.long q2)] 5)) t := fun t k => k78 t (by
    show Steps p.tables e below (T73.setTop (mkF m 19 #[.val (.ref a1), .val (.long q2), .second, .val (.int (13 : Int32)), .val (.int (16 : Int32))] [])) _
    refine XS.goto X73.here hx rfl (pc0 := 19) (pc' := 6) rfl (hb hby d4_19) (by decide) (by decide) ?_
    show Steps p.tables e below (T73.setTop (mkF m 6 #[.val (.ref a1), .val (.long q2), .second, .val (.int (13 : Int32)), .val (.int (16 : Int32))] [])) _
    refine XS.iloadN X73.here hx rfl (hb hby d4_6) rfl ?_
    show Steps p.tables e below (T73.setTop (mkF m 7 #[.val (.ref a1), .val (.long q2), .second, .val (.int (13 : Int32)), .val (.int (16 : Int32))] [(.int (13 : Int32))])) _
    refine XS.iload X73.here hx rfl (hb hby d4_7) rfl ?_
    show Steps p.tables e below (T73.setTop (mkF m 9 #[.val (.ref a1), .val (.long q2), .second, .val (.int (13 : Int32)), .val (.int (16 : Int32))] [(.int (16 : Int32)), (.int (13 : Int32))])) _
    refine XS.icmpNo X73.here hx rfl (hb hby d4_9) rfl (tlt (by decide)).2.1 ?_
    show Steps p.tables e below (T73.setTop (mkF m 12 #[.val (.ref a1), .val (.long q2), .second, .val (.int (13 : Int32)), .val (.int (16 : Int32))] [])) _
    refine XS.aloadN X73.here hx rfl (hb hby d4_12) rfl rfl ?_
    show Steps p.tables e below (T73.setTop (mkF m 13 #[.val (.ref a1), .val (.long q2), .second, .val (.int (13 : Int32)), .val (.int (16 : Int32))] [(.ref a1)])) _
    refine XS.iloadN X73.here hx rfl (hb hby d4_13) rfl ?_
    show Steps p.tables e below (T73.setTop (mkF m 14 #[.val (.ref a1), .val (.long q2), .second, .val (.int (13 : Int32)), .val (.int (16 : Int32))] [(.int (13 : Int32)), (.ref a1)])) _
    refine XS.lloadN X73.here hx rfl (hb hby d4_14) rfl ?_
    show Steps p.tables e below (T73.setTop (mkF m 15 #[.val (.ref a1), .val (.long q2), .second, .val (.int (13 : Int32)), .val (.int (16 : Int32))] [(.long q2), (.int (13 : Int32)), (.ref a1)])) _
    refine st79 _ ?_
    show Steps p.tables e below (T79.setTop (mkF m 16 #[.val (.ref a1), .val (.long q2), .second, .val (.int (13 : Int32)), .val (.int (16 : Int32))] [])) _
    refine XS.iinc X79.here hx rfl (hb hby d4_16) rfl (l' := #[.val (.ref a1), .val (.long q2), .second, .val (.int ((13 : Int32) + (1 : Int32))), .val (.int (16 : Int32))]) rfl ?_
    exact k)
  have qk84 : ((13 : Int32) + (1 : Int32)) = (14 : Int32) := by decide
  have k84 : ∀ t, Steps p.tables e below (T79.setTop (mkF m 19 #[.val (.ref a1), .val (.long q2), .second, .val (.int (14 : Int32)), .val (.int (16 : Int32))] [])) t → Steps p.tables e below (s₁.setTop (entryFrame m #[(.ref a1), (.long q2)] 5)) t := by rw [qk84] at k83; exact k83
  obtain ⟨T85, h85, X85, e85, W85, Vn85, st85⟩ := own_stJ X79 hx hZ e79 V82 (j := (14 : Int32)) (by decide) (show (14 : Int32).toNatClampNeg < 16 by decide) (g := (mkF m 15 #[.val (.ref a1), .val (.long q2), .second, .val (.int (14 : Int32)), .val (.int (16 : Int32))] [(.long q2), (.int (14 : Int32)), (.ref a1)])) rfl rfl (hb hby d4_15)
  have N85 := Fr.snoc X85 N79 g_a1
  have V86 : Arv Z h85 a1 kk .long (16 : Int32) ((([q2, q2, q2, q2, q2, q2, q2, q2, q2, q2, q2, q2, q2, q2, 0, 0] : List Int64).set (14 : Int32).toNatClampNeg q2).map Value.long) (.long 0) := Vn85
  have K87 : Keep h0 h85 [a1] := K81.wr W85 (Or.inl (List.mem_of_getElem? (i := 0) rfl))
  have ix14 : (14 : Int32).toNatClampNeg = 14 := by decide
  rw [ix14] at V86
  have V88 : Arv Z h85 a1 kk .long (16 : Int32) (([q2, q2, q2, q2, q2, q2, q2, q2, q2, q2, q2, q2, q2, q2, q2, 0] : List Int64).map Value.long) (.long 0) := V86
  have k89 : ∀ t, Steps p.tables e below (T85.setTop (mkF m 19 #[.val (.ref a1), .val (.long q2), .second, .val (.int ((14 : Int32) + (1 : Int32))), .val (.int (16 : Int32))] [])) t → Steps p.tables e below (s₁.setTop (entryFrame m #[(.ref a1), (.long q2)] 5)) t := fun t k => k84 t (by
    show Steps p.tables e below (T79.setTop (mkF m 19 #[.val (.ref a1), .val (.long q2), .second, .val (.int (14 : Int32)), .val (.int (16 : Int32))] [])) _
    refine XS.goto X79.here hx rfl (pc0 := 19) (pc' := 6) rfl (hb hby d4_19) (by decide) (by decide) ?_
    show Steps p.tables e below (T79.setTop (mkF m 6 #[.val (.ref a1), .val (.long q2), .second, .val (.int (14 : Int32)), .val (.int (16 : Int32))] [])) _
    refine XS.iloadN X79.here hx rfl (hb hby d4_6) rfl ?_
    show Steps p.tables e below (T79.setTop (mkF m 7 #[.val (.ref a1), .val (.long q2), .second, .val (.int (14 : Int32)), .val (.int (16 : Int32))] [(.int (14 : Int32))])) _
    refine XS.iload X79.here hx rfl (hb hby d4_7) rfl ?_
    show Steps p.tables e below (T79.setTop (mkF m 9 #[.val (.ref a1), .val (.long q2), .second, .val (.int (14 : Int32)), .val (.int (16 : Int32))] [(.int (16 : Int32)), (.int (14 : Int32))])) _
    refine XS.icmpNo X79.here hx rfl (hb hby d4_9) rfl (tlt (by decide)).2.1 ?_
    show Steps p.tables e below (T79.setTop (mkF m 12 #[.val (.ref a1), .val (.long q2), .second, .val (.int (14 : Int32)), .val (.int (16 : Int32))] [])) _
    refine XS.aloadN X79.here hx rfl (hb hby d4_12) rfl rfl ?_
    show Steps p.tables e below (T79.setTop (mkF m 13 #[.val (.ref a1), .val (.long q2), .second, .val (.int (14 : Int32)), .val (.int (16 : Int32))] [(.ref a1)])) _
    refine XS.iloadN X79.here hx rfl (hb hby d4_13) rfl ?_
    show Steps p.tables e below (T79.setTop (mkF m 14 #[.val (.ref a1), .val (.long q2), .second, .val (.int (14 : Int32)), .val (.int (16 : Int32))] [(.int (14 : Int32)), (.ref a1)])) _
    refine XS.lloadN X79.here hx rfl (hb hby d4_14) rfl ?_
    show Steps p.tables e below (T79.setTop (mkF m 15 #[.val (.ref a1), .val (.long q2), .second, .val (.int (14 : Int32)), .val (.int (16 : Int32))] [(.long q2), (.int (14 : Int32)), (.ref a1)])) _
    refine st85 _ ?_
    show Steps p.tables e below (T85.setTop (mkF m 16 #[.val (.ref a1), .val (.long q2), .second, .val (.int (14 : Int32)), .val (.int (16 : Int32))] [])) _
    refine XS.iinc X85.here hx rfl (hb hby d4_16) rfl (l' := #[.val (.ref a1), .val (.long q2), .second, .val (.int ((14 : Int32) + (1 : Int32))), .val (.int (16 : Int32))]) rfl ?_
    exact k)
  have qk90 : ((14 : Int32) + (1 : Int32)) = (15 : Int32) := by decide
  have k90 : ∀ t, Steps p.tables e below (T85.setTop (mkF m 19 #[.val (.ref a1), .val (.long q2), .second, .val (.int (15 : Int32)), .val (.int (16 : Int32))] [])) t → Steps p.tables e below (s₁.setTop (entryFrame m #[(.ref a1), (.long q2)] 5)) t := by rw [qk90] at k89; exact k89
  obtain ⟨T91, h91, X91, e91, W91, Vn91, st91⟩ := own_stJ X85 hx hZ e85 V88 (j := (15 : Int32)) (by decide) (show (15 : Int32).toNatClampNeg < 16 by decide) (g := (mkF m 15 #[.val (.ref a1), .val (.long q2), .second, .val (.int (15 : Int32)), .val (.int (16 : Int32))] [(.long q2), (.int (15 : Int32)), (.ref a1)])) rfl rfl (hb hby d4_15)
  have N91 := Fr.snoc X91 N85 g_a1
  have V92 : Arv Z h91 a1 kk .long (16 : Int32) ((([q2, q2, q2, q2, q2, q2, q2, q2, q2, q2, q2, q2, q2, q2, q2, 0] : List Int64).set (15 : Int32).toNatClampNeg q2).map Value.long) (.long 0) := Vn91
  have K93 : Keep h0 h91 [a1] := K87.wr W91 (Or.inl (List.mem_of_getElem? (i := 0) rfl))
  have ix15 : (15 : Int32).toNatClampNeg = 15 := by decide
  rw [ix15] at V92
  have V94 : Arv Z h91 a1 kk .long (16 : Int32) (([q2, q2, q2, q2, q2, q2, q2, q2, q2, q2, q2, q2, q2, q2, q2, q2] : List Int64).map Value.long) (.long 0) := V92
  have k95 : ∀ t, Steps p.tables e below (T91.setTop (mkF m 19 #[.val (.ref a1), .val (.long q2), .second, .val (.int ((15 : Int32) + (1 : Int32))), .val (.int (16 : Int32))] [])) t → Steps p.tables e below (s₁.setTop (entryFrame m #[(.ref a1), (.long q2)] 5)) t := fun t k => k90 t (by
    show Steps p.tables e below (T85.setTop (mkF m 19 #[.val (.ref a1), .val (.long q2), .second, .val (.int (15 : Int32)), .val (.int (16 : Int32))] [])) _
    refine XS.goto X85.here hx rfl (pc0 := 19) (pc' := 6) rfl (hb hby d4_19) (by decide) (by decide) ?_
    show Steps p.tables e below (T85.setTop (mkF m 6 #[.val (.ref a1), .val (.long q2), .second, .val (.int (15 : Int32)), .val (.int (16 : Int32))] [])) _
    refine XS.iloadN X85.here hx rfl (hb hby d4_6) rfl ?_
    show Steps p.tables e below (T85.setTop (mkF m 7 #[.val (.ref a1), .val (.long q2), .second, .val (.int (15 : Int32)), .val (.int (16 : Int32))] [(.int (15 : Int32))])) _
    refine XS.iload X85.here hx rfl (hb hby d4_7) rfl ?_
    show Steps p.tables e below (T85.setTop (mkF m 9 #[.val (.ref a1), .val (.long q2), .second, .val (.int (15 : Int32)), .val (.int (16 : Int32))] [(.int (16 : Int32)), (.int (15 : Int32))])) _
    refine XS.icmpNo X85.here hx rfl (hb hby d4_9) rfl (tlt (by decide)).2.1 ?_
    show Steps p.tables e below (T85.setTop (mkF m 12 #[.val (.ref a1), .val (.long q2), .second, .val (.int (15 : Int32)), .val (.int (16 : Int32))] [])) _
    refine XS.aloadN X85.here hx rfl (hb hby d4_12) rfl rfl ?_
    show Steps p.tables e below (T85.setTop (mkF m 13 #[.val (.ref a1), .val (.long q2), .second, .val (.int (15 : Int32)), .val (.int (16 : Int32))] [(.ref a1)])) _
    refine XS.iloadN X85.here hx rfl (hb hby d4_13) rfl ?_
    show Steps p.tables e below (T85.setTop (mkF m 14 #[.val (.ref a1), .val (.long q2), .second, .val (.int (15 : Int32)), .val (.int (16 : Int32))] [(.int (15 : Int32)), (.ref a1)])) _
    refine XS.lloadN X85.here hx rfl (hb hby d4_14) rfl ?_
    show Steps p.tables e below (T85.setTop (mkF m 15 #[.val (.ref a1), .val (.long q2), .second, .val (.int (15 : Int32)), .val (.int (16 : Int32))] [(.long q2), (.int (15 : Int32)), (.ref a1)])) _
    refine st91 _ ?_
    show Steps p.tables e below (T91.setTop (mkF m 16 #[.val (.ref a1), .val (.long q2), .second, .val (.int (15 : Int32)), .val (.int (16 : Int32))] [])) _
    refine XS.iinc X91.here hx rfl (hb hby d4_16) rfl (l' := #[.val (.ref a1), .val (.long q2), .second, .val (.int ((15 : Int32) + (1 : Int32))), .val (.int (16 : Int32))]) rfl ?_
    exact k)
  have qk96 : ((15 : Int32) + (1 : Int32)) = (16 : Int32) := by decide
  have k96 : ∀ t, Steps p.tables e below (T91.setTop (mkF m 19 #[.val (.ref a1), .val (.long q2), .second, .val (.int (16 : Int32)), .val (.int (16 : Int32))] [])) t → Steps p.tables e below (s₁.setTop (entryFrame m #[(.ref a1), (.long q2)] 5)) t := by rw [qk96] at k95; exact k95
  have k98 : ∀ t, Steps p.tables e below (T91.setTop (mkF m 22 #[.val (.ref a1), .val (.long q2), .second, .val (.int (16 : Int32)), .val (.int (16 : Int32))] [])) t → Steps p.tables e below (s₁.setTop (entryFrame m #[(.ref a1), (.long q2)] 5)) t := fun t k => k96 t (by
    show Steps p.tables e below (T91.setTop (mkF m 19 #[.val (.ref a1), .val (.long q2), .second, .val (.int (16 : Int32)), .val (.int (16 : Int32))] [])) _
    refine XS.goto X91.here hx rfl (pc0 := 19) (pc' := 6) rfl (hb hby d4_19) (by decide) (by decide) ?_
    show Steps p.tables e below (T91.setTop (mkF m 6 #[.val (.ref a1), .val (.long q2), .second, .val (.int (16 : Int32)), .val (.int (16 : Int32))] [])) _
    refine XS.iloadN X91.here hx rfl (hb hby d4_6) rfl ?_
    show Steps p.tables e below (T91.setTop (mkF m 7 #[.val (.ref a1), .val (.long q2), .second, .val (.int (16 : Int32)), .val (.int (16 : Int32))] [(.int (16 : Int32))])) _
    refine XS.iload X91.here hx rfl (hb hby d4_7) rfl ?_
    show Steps p.tables e below (T91.setTop (mkF m 9 #[.val (.ref a1), .val (.long q2), .second, .val (.int (16 : Int32)), .val (.int (16 : Int32))] [(.int (16 : Int32)), (.int (16 : Int32))])) _
    refine XS.icmpYes X91.here hx rfl (pc0 := 9) (pc' := 22) rfl (hb hby d4_9) rfl (flt (by decide)).2.1 (by decide) (by decide) ?_
    exact k)
  obtain ⟨fs, hr, hrun, hended, hW, hsame⟩ := X91.leave (v := none) (fun _ => rfl) (BodyLoose.notSynchronized Bd)
  refine ⟨_, _, k98 _ ?_, hrun, hended, _, _, rfl, ?_, ⟨_, rfl⟩, hW, hsame.mono (by decide) (by decide)⟩
  · show Steps p.tables e below (T91.setTop (mkF m 22 #[.val (.ref a1), .val (.long q2), .second, .val (.int (16 : Int32)), .val (.int (16 : Int32))] [])) _
    exact X91.returnOut hx Bd.returns (hb hby d4_22) hr
  ·
    show Qfill _ a1 q2 kk h0 n0 _ T91.heap _
    rw [e91]
    exact ⟨rfl, N91, K93, V94⟩
theorem pd___JJ_V : parseMethodDescriptor "([JJ)V" = some ⟨[(.array .long), .long], none⟩ := by decide +kernel
theorem pd__J_I : parseMethodDescriptor "(J)I" = some ⟨[.long], some .int⟩ := by decide +kernel
theorem d3_0 : decode prog_40_method_8_code 0 = .ok (.aload_n 0, 1) := by decide +kernel
theorem d3_1 : decode prog_40_method_8_code 1 = .ok (.iload_n 1, 1) := by decide +kernel
theorem d3_2 : decode prog_40_method_8_code 2 = .ok (.newarray .long, 2) := by decide +kernel
theorem d3_4 : decode prog_40_method_8_code 4 = .ok (.putfield 29, 3) := by decide +kernel
theorem d3_7 : decode prog_40_method_8_code 7 = .ok (.aload_n 0, 1) := by decide +kernel
theorem d3_8 : decode prog_40_method_8_code 8 = .ok (.getfield 29, 3) := by decide +kernel
theorem d3_11 : decode prog_40_method_8_code 11 = .ok (.ldc2_w 33, 3) := by decide +kernel
theorem d3_14 : decode prog_40_method_8_code 14 = .ok (.invokestatic 58, 3) := by decide +kernel
theorem d3_17 : decode prog_40_method_8_code 17 = .ok (.aload_n 0, 1) := by decide +kernel
theorem d3_18 : decode prog_40_method_8_code 18 = .ok (.iload_n 1, 1) := by decide +kernel
theorem d3_19 : decode prog_40_method_8_code 19 = .ok (.newarray .int, 2) := by decide +kernel
theorem d3_21 : decode prog_40_method_8_code 21 = .ok (.putfield 35, 3) := by decide +kernel
theorem d3_24 : decode prog_40_method_8_code 24 = .ok (.aload_n 0, 1) := by decide +kernel
theorem d3_25 : decode prog_40_method_8_code 25 = .ok (.iload_n 1, 1) := by decide +kernel
theorem d3_26 : decode prog_40_method_8_code 26 = .ok (.i2l, 1) := by decide +kernel
theorem d3_27 : decode prog_40_method_8_code 27 = .ok (.invokestatic 62, 3) := by decide +kernel
theorem d3_30 : decode prog_40_method_8_code 30 = .ok (.iconst 1, 1) := by decide +kernel
theorem d3_31 : decode prog_40_method_8_code 31 = .ok (.iadd, 1) := by decide +kernel
theorem d3_32 : decode prog_40_method_8_code 32 = .ok (.putfield 55, 3) := by decide +kernel
theorem d3_35 : decode prog_40_method_8_code 35 = .ok (.return_, 1) := by decide +kernel
theorem pn_3 : plainName "com/example/histories_to_cohorts/historiestocohorts/service/SetTrie" = true := by first | (simp [plainName, overriddenIn]; done) | decide +kernel
theorem ef_alloc (m : MethodId) (x0 : Addr) (x1 : Int32) : entryFrame m #[(.ref x0), (.int x1)] 2 = mkF m 0 #[.val (.ref x0), .val (.int x1)] [] := by first | (simp [entryFrame, mkF, argsToLocals, Value.category]; done) | rfl
def Qalloc (Z : State) (a1 : Addr) (h0 : Heap) (n0 : Nat) (v : Option Value) (h : Heap) (L : List Loc) : Prop := v = none ∧ Fr n0 L ∧ Keep h0 h [a1] ∧ ∃ (ak ac : Addr) (kk kc : ClassId), (h0.size ≤ ak ∧ h0.size ≤ ac ∧ ak ≠ ac) ∧ Exa Z h a1 "com/example/histories_to_cohorts/historiestocohorts/service/SetTrie" ∧ Fld Z h a1 "com/example/histories_to_cohorts/historiestocohorts/service/SetTrie" "keys" "[J" (.ref ak) ∧ Fld Z h a1 "com/example/histories_to_cohorts/historiestocohorts/service/SetTrie" "children" "[I" (.ref ac) ∧ Fld Z h a1 "com/example/histories_to_cohorts/historiestocohorts/service/SetTrie" "counts" "[I" .null ∧ Fld Z h a1 "com/example/histories_to_cohorts/historiestocohorts/service/SetTrie" "nodes" "I" (.int 1) ∧ Fld Z h a1 "com/example/histories_to_cohorts/historiestocohorts/service/SetTrie" "shift" "I" (.int 60) ∧ Arv Z h ak kk .long 16 (own_M16.map Value.long) (.long 0) ∧ Arv Z h ac kc .int 16 (own_Z16.map Value.int) (.int 0)
set_option maxRecDepth 65536 in
set_option maxHeartbeats 40000000 in
theorem rm_alloc (l : Launch) (Z : State) (a0 : Array Value) (hw : ∀ d ∈ tables_1, d.before a0 Z = true) (ws : List Jvm.Cond) (a1 : Addr) (h0 : Heap) (n0 : Nat) (Z0 : n0 ≤ h0.size) (E_a1 : Exa Z h0 a1 "com/example/histories_to_cohorts/historiestocohorts/service/SetTrie") (F_keys : Fld Z h0 a1 "com/example/histories_to_cohorts/historiestocohorts/service/SetTrie" "keys" "[J" .null) (F_children : Fld Z h0 a1 "com/example/histories_to_cohorts/historiestocohorts/service/SetTrie" "children" "[I" .null) (F_counts : Fld Z h0 a1 "com/example/histories_to_cohorts/historiestocohorts/service/SetTrie" "counts" "[I" .null) (F_nodes : Fld Z h0 a1 "com/example/histories_to_cohorts/historiestocohorts/service/SetTrie" "nodes" "I" (.int (1 : Int32))) (F_shift : Fld Z h0 a1 "com/example/histories_to_cohorts/historiestocohorts/service/SetTrie" "shift" "I" (.int (0 : Int32))) (g_a1 : n0 ≤ a1) :
    MetFree l (⟨"com/example/histories_to_cohorts/historiestocohorts/service/SetTrie", "allocate", "(I)V"⟩ : MethodName) (head1 (Jvm.Cond.code (⟨"com/example/histories_to_cohorts/historiestocohorts/service/SetTrie", "allocate", "(I)V"⟩ : MethodName) prog_40_method_8_code 2 none :: ws) ({ frames := 2, cells := 2, slots := 32, locals := 29 } : Room)) (fun a U => a = #[(.ref a1), (.int (16 : Int32))] ∧ Z.Warmed39 U.vm ∧ U.heap = h0) (fun _ _ _ _ _ => True) (fun _ U o U' => ∃ v L, o = .returned v ∧ Qalloc Z a1 h0 n0 v U'.heap L ∧ FrameEnd U o U' L ({ frames := 2, cells := 2, slots := 32, locals := 29 } : Room).cells ({ frames := 2, cells := 2, slots := 32, locals := 29 } : Room).slots) := by
  refine MetFree.of_bodySF (plainFor_of_name pn_3) hisR ?_
  intro p e s m args below meth c s₁ Bd hml0 hP hK
  obtain ⟨rfl, hZ, hh⟩ := hP
  have hx := Bd.exec
  have hby := Bd.bytes
  have hml : c.maxLocals = 2 := hml0
  have hown : s.vm.findClass "com/example/histories_to_cohorts/historiestocohorts/service/SetTrie" = some m.cls := findClass_of_methodNamed Bd.named
  have hnm := (name_of_methodNamed Bd.named Bd.method).1
  have X0 : Stand p l e ({ frames := 2, cells := 2, slots := 32, locals := 29 } : Room) s m #[(.ref a1), (.int (16 : Int32))] below meth c s₁ [] 0 0 := Stand.of_body Bd
  have e0 : s₁.heap = h0 := by rw [← hh, Bd.state]; rfl
  have N0 := Fr.nil n0
  have k0 : ∀ t, Steps p.tables e below (s₁.setTop (mkF m 0 #[.val (.ref a1), .val (.int (16 : Int32))] [])) t → Steps p.tables e below (s₁.setTop (entryFrame m #[(.ref a1), (.int (16 : Int32))] 2)) t := fun t k => castTop (ef_alloc m a1 (16 : Int32)) k
  obtain ⟨T1, h1, kc1, X1, e1, Ex1, A1, st1⟩ := newP X0 hx hZ (hw _ (List.mem_of_getElem? (i := 15) rfl)) e0 (g := (mkF m 2 #[.val (.ref a1), .val (.int (16 : Int32))] [(.int (16 : Int32)), (.ref a1)])) rfl (hb hby d3_2) rfl (by decide) (cap := 16) (by decide) (by decide) (by decide) (by decide)
  obtain ⟨b1, g1⟩ : ∃ z, z = h0.size := ⟨_, rfl⟩
  rw [← g1] at A1 st1
  have sz_b1 : h0.size ≤ b1 := Nat.le_trans (Keep.refl h0 [a1]).1 (Nat.le_of_eq g1.symm)
  have g_b1 : n0 ≤ b1 := Nat.le_trans Z0 sz_b1
  have ne2 : a1 ≠ b1 := Nat.ne_of_lt (Nat.lt_of_lt_of_le E_a1.lt (Nat.le_of_eq g1.symm))
  have E3 : Exa Z h1 a1 "com/example/histories_to_cohorts/historiestocohorts/service/SetTrie" := E_a1.ext Ex1
  have F4 : Fld Z h1 a1 "com/example/histories_to_cohorts/historiestocohorts/service/SetTrie" "keys" "[J" .null := F_keys.ext Ex1
  have F5 : Fld Z h1 a1 "com/example/histories_to_cohorts/historiestocohorts/service/SetTrie" "children" "[I" .null := F_children.ext Ex1
  have F6 : Fld Z h1 a1 "com/example/histories_to_cohorts/historiestocohorts/service/SetTrie" "counts" "[I" .null := F_counts.ext Ex1
  have F7 : Fld Z h1 a1 "com/example/histories_to_cohorts/historiestocohorts/service/SetTrie" "nodes" "I" (.int (1 : Int32)) := F_nodes.ext Ex1
  have F8 : Fld Z h1 a1 "com/example/histories_to_cohorts/historiestocohorts/service/SetTrie" "shift" "I" (.int (0 : Int32)) := F_shift.ext Ex1
  have V9 : Arv Z h1 b1 kc1 .long (16 : Int32) [] (defaultValue .long) := Arv.new A1 (by decide)
  have K10 : Keep h0 h1 [a1] := (Keep.refl h0 [a1]).ext Ex1
  have V11 : Arv Z h1 b1 kc1 .long (16 : Int32) (([0, 0, 0, 0, 0, 0, 0, 0, 0, 0, 0, 0, 0, 0, 0, 0] : List Int64).map Value.long) (.long 0) := V9.pad (pad_rep [] _ 16)
  obtain ⟨T12, h12, X12, e12, W12, st12⟩ := putF X1 hx hZ hown (host := "") (Or.inl (hw _ (List.mem_of_getElem? (i := 16) rfl))) Via.refl e1 F4 E3 (Or.inl (hw _ (List.mem_of_getElem? (i := 17) rfl))) (hw _ (List.mem_of_getElem? (i := 1) rfl)) (ty := (.array .long)) (by decide) rfl rfl (g := (mkF m 4 #[.val (.ref a1), .val (.int (16 : Int32))] [(.ref b1), (.ref a1)])) rfl rfl (hb hby d3_4)
  have N12 := Fr.snoc X12 N0 g_a1
  have F13 : Fld Z h12 a1 "com/example/histories_to_cohorts/historiestocohorts/service/SetTrie" "keys" "[J" (.ref b1) := F4.same W12
  have E14 : Exa Z h12 a1 "com/example/histories_to_cohorts/historiestocohorts/service/SetTrie" := E3.wr W12
  have F15 : Fld Z h12 a1 "com/example/histories_to_cohorts/historiestocohorts/service/SetTrie" "children" "[I" .null := F5.other W12 (Or.inr (slot_ne (Or.inl (hw _ (List.mem_of_getElem? (i := 25) rfl))) (Or.inl (hw _ (List.mem_of_getElem? (i := 17) rfl))) (by decide) (t := (.array .int)) (t' := (.array .long)) (by decide) (by decide)))
  have F16 : Fld Z h12 a1 "com/example/histories_to_cohorts/historiestocohorts/service/SetTrie" "counts" "[I" .null := F6.other W12 (Or.inr (slot_ne (Or.inl (hw _ (List.mem_of_getElem? (i := 38) rfl))) (Or.inl (hw _ (List.mem_of_getElem? (i := 17) rfl))) (by decide) (t := (.array .int)) (t' := (.array .long)) (by decide) (by decide)))
  have F17 : Fld Z h12 a1 "com/example/histories_to_cohorts/historiestocohorts/service/SetTrie" "nodes" "I" (.int (1 : Int32)) := F7.other W12 (Or.inr (slot_ne (Or.inl (hw _ (List.mem_of_getElem? (i := 10) rfl))) (Or.inl (hw _ (List.mem_of_getElem? (i := 17) rfl))) (by decide) (t := .int) (t' := (.array .long)) (by decide) (by decide)))
  have F18 : Fld Z h12 a1 "com/example/histories_to_cohorts/historiestocohorts/service/SetTrie" "shift" "I" (.int (0 : Int32)) := F8.other W12 (Or.inr (slot_ne (Or.inl (hw _ (List.mem_of_getElem? (i := 36) rfl))) (Or.inl (hw _ (List.mem_of_getElem? (i := 17) rfl))) (by decide) (t := .int) (t' := (.array .long)) (by decide) (by decide)))
  have V19 : Arv Z h12 b1 kc1 .long (16 : Int32) (([0, 0, 0, 0, 0, 0, 0, 0, 0, 0, 0, 0, 0, 0, 0, 0] : List Int64).map Value.long) (.long 0) := V11.other W12 (Ne.symm ne2)
  have K20 : Keep h0 h12 [a1] := K10.wr W12 (Or.inl (List.mem_of_getElem? (i := 0) rfl))
  obtain ⟨T21, X21, e21, st21⟩ := getF X12 hx hZ hown (host := "") (Or.inl (hw _ (List.mem_of_getElem? (i := 16) rfl))) Via.refl e12 F13 (g := (mkF m 8 #[.val (.ref a1), .val (.int (16 : Int32))] [(.ref a1)])) rfl rfl (hb hby d3_8)
  obtain ⟨_, _, ⟨T22, L22, kk22, n22⟩, -, X22, ⟨Lc22, hQ22, l22, y22, z22⟩, st22⟩ := Jvm.LawKit.callS X21 hx (y := (⟨"java/util/Arrays", "fill", "([JJ)V"⟩ : MethodName)) hown (mvT hZ (hw _ (List.mem_of_getElem? (i := 19) rfl))) (mvT hZ (hw _ (List.mem_of_getElem? (i := 20) rfl))) (mvT hZ (hw _ (List.mem_of_getElem? (i := 21) rfl))) (mvT hZ (hw _ (List.mem_of_getElem? (i := 22) rfl))) (by decide) (backOf (W := 0) (rm_fill l Z a0 hw [] b1 (-1 : Int64) kc1 h12 n0 (Nat.le_trans Z0 K20.1) V19 g_b1) hZ (hw _ (List.mem_of_getElem? (i := 22) rfl)) (hw _ (List.mem_of_getElem? (i := 21) rfl)) (by decide) (by decide)) (g := (mkF m 14 #[.val (.ref a1), .val (.int (16 : Int32))] [(.long (-1 : Int64)), (.ref b1)])) rfl (by rw [hml]; rfl) (argsL := [(.ref b1), (.long (-1 : Int64))]) (rest := []) (lenOf pd___JJ_V rfl) rfl (by show 2 * 0 + _ ≤ _; exact Nat.le_of_eq rfl) (hb hby d3_14) (fun _ _ => ⟨rfl, e21, (by decide : 1 + 0 ≤ _), (by decide : 16 + 0 ≤ _)⟩)
  dsimp only [Pt.U, Pt.locs, Pt.cells, Pt.slots] at X22 l22 y22 z22 st22 hQ22
  subst l22 y22 z22
  obtain ⟨rfl, N22q, Kf, Vf⟩ := hQ22
  have N22 := Fr.app N12 N22q
  have K23 : Keep h0 T22.heap [a1] := K20.trans Kf (allS (Or.inr sz_b1) all0)
  have E24 : Exa Z T22.heap a1 "com/example/histories_to_cohorts/historiestocohorts/service/SetTrie" := E14.keep Kf
  have F25 : Fld Z T22.heap a1 "com/example/histories_to_cohorts/historiestocohorts/service/SetTrie" "keys" "[J" (.ref b1) := F13.keep Kf (ninS ne2 nin0)
  have F26 : Fld Z T22.heap a1 "com/example/histories_to_cohorts/historiestocohorts/service/SetTrie" "children" "[I" .null := F15.keep Kf (ninS ne2 nin0)
  have F27 : Fld Z T22.heap a1 "com/example/histories_to_cohorts/historiestocohorts/service/SetTrie" "counts" "[I" .null := F16.keep Kf (ninS ne2 nin0)
  have F28 : Fld Z T22.heap a1 "com/example/histories_to_cohorts/historiestocohorts/service/SetTrie" "nodes" "I" (.int (1 : Int32)) := F17.keep Kf (ninS ne2 nin0)
  have F29 : Fld Z T22.heap a1 "com/example/histories_to_cohorts/historiestocohorts/service/SetTrie" "shift" "I" (.int (0 : Int32)) := F18.keep Kf (ninS ne2 nin0)
  have V30 : Arv Z T22.heap b1 kc1 .long (16 : Int32) (own_M16.map Value.long) (.long 0) := Vf
  obtain ⟨T31, h31, kc31, X31, e31, Ex31, A31, st31⟩ := newP X22 hx hZ (hw _ (List.mem_of_getElem? (i := 23) rfl)) rfl (g := (mkF m 19 #[.val (.ref a1), .val (.int (16 : Int32))] [(.int (16 : Int32)), (.ref a1)])) rfl (hb hby d3_19) rfl (by decide) (cap := 16) (by decide) (by decide) (by decide) (by decide)
  obtain ⟨b31, g31⟩ : ∃ z, z = T22.heap.size := ⟨_, rfl⟩
  rw [← g31] at A31 st31
  have sz_b31 : h0.size ≤ b31 := Nat.le_trans K23.1 (Nat.le_of_eq g31.symm)
  have g_b31 : n0 ≤ b31 := Nat.le_trans Z0 sz_b31
  have ne32 : a1 ≠ b31 := Nat.ne_of_lt (Nat.lt_of_lt_of_le E24.lt (Nat.le_of_eq g31.symm))
  have ne33 : b1 ≠ b31 := Nat.ne_of_lt (Nat.lt_of_lt_of_le V30.lt (Nat.le_of_eq g31.symm))
  have E34 : Exa Z h31 a1 "com/example/histories_to_cohorts/historiestocohorts/service/SetTrie" := E24.ext Ex31
  have F35 : Fld Z h31 a1 "com/example/histories_to_cohorts/historiestocohorts/service/SetTrie" "keys" "[J" (.ref b1) := F25.ext Ex31
  have F36 : Fld Z h31 a1 "com/example/histories_to_cohorts/historiestocohorts/service/SetTrie" "children" "[I" .null := F26.ext Ex31
  have F37 : Fld Z h31 a1 "com/example/histories_to_cohorts/historiestocohorts/service/SetTrie" "counts" "[I" .null := F27.ext Ex31
  have F38 : Fld Z h31 a1 "com/example/histories_to_cohorts/historiestocohorts/service/SetTrie" "nodes" "I" (.int (1 : Int32)) := F28.ext Ex31
  have F39 : Fld Z h31 a1 "com/example/histories_to_cohorts/historiestocohorts/service/SetTrie" "shift" "I" (.int (0 : Int32)) := F29.ext Ex31
  have V40 : Arv Z h31 b1 kc1 .long (16 : Int32) (own_M16.map Value.long) (.long 0) := V30.ext Ex31
  have V41 : Arv Z h31 b31 kc31 .int (16 : Int32) [] (defaultValue .int) := Arv.new A31 (by decide)
  have K42 : Keep h0 h31 [a1] := K23.ext Ex31
  have V43 : Arv Z h31 b31 kc31 .int (16 : Int32) (([0, 0, 0, 0, 0, 0, 0, 0, 0, 0, 0, 0, 0, 0, 0, 0] : List Int32).map Value.int) (.int 0) := V41.pad (pad_rep [] _ 16)
  obtain ⟨T44, h44, X44, e44, W44, st44⟩ := putF X31 hx hZ hown (host := "") (Or.inl (hw _ (List.mem_of_getElem? (i := 24) rfl))) Via.refl e31 F36 E34 (Or.inl (hw _ (List.mem_of_getElem? (i := 25) rfl))) (hw _ (List.mem_of_getElem? (i := 1) rfl)) (ty := (.array .int)) (by decide) rfl rfl (g := (mkF m 21 #[.val (.ref a1), .val (.int (16 : Int32))] [(.ref b31), (.ref a1)])) rfl rfl (hb hby d3_21)
  have N44 := Fr.snoc X44 N22 g_a1
  have F45 : Fld Z h44 a1 "com/example/histories_to_cohorts/historiestocohorts/service/SetTrie" "children" "[I" (.ref b31) := F36.same W44
  have E46 : Exa Z h44 a1 "com/example/histories_to_cohorts/historiestocohorts/service/SetTrie" := E34.wr W44
  have F47 : Fld Z h44 a1 "com/example/histories_to_cohorts/historiestocohorts/service/SetTrie" "keys" "[J" (.ref b1) := F35.other W44 (Or.inr (slot_ne (Or.inl (hw _ (List.mem_of_getElem? (i := 17) rfl))) (Or.inl (hw _ (List.mem_of_getElem? (i := 25) rfl))) (by decide) (t := (.array .long)) (t' := (.array .int)) (by decide) (by decide)))
  have F48 : Fld Z h44 a1 "com/example/histories_to_cohorts/historiestocohorts/service/SetTrie" "counts" "[I" .null := F37.other W44 (Or.inr (slot_ne (Or.inl (hw _ (List.mem_of_getElem? (i := 38) rfl))) (Or.inl (hw _ (List.mem_of_getElem? (i := 25) rfl))) (by decide) (t := (.array .int)) (t' := (.array .int)) (by decide) (by decide)))
  have F49 : Fld Z h44 a1 "com/example/histories_to_cohorts/historiestocohorts/service/SetTrie" "nodes" "I" (.int (1 : Int32)) := F38.other W44 (Or.inr (slot_ne (Or.inl (hw _ (List.mem_of_getElem? (i := 10) rfl))) (Or.inl (hw _ (List.mem_of_getElem? (i := 25) rfl))) (by decide) (t := .int) (t' := (.array .int)) (by decide) (by decide)))
  have F50 : Fld Z h44 a1 "com/example/histories_to_cohorts/historiestocohorts/service/SetTrie" "shift" "I" (.int (0 : Int32)) := F39.other W44 (Or.inr (slot_ne (Or.inl (hw _ (List.mem_of_getElem? (i := 36) rfl))) (Or.inl (hw _ (List.mem_of_getElem? (i := 25) rfl))) (by decide) (t := .int) (t' := (.array .int)) (by decide) (by decide)))
  have V51 : Arv Z h44 b1 kc1 .long (16 : Int32) (own_M16.map Value.long) (.long 0) := V40.other W44 (Ne.symm ne2)
  have V52 : Arv Z h44 b31 kc31 .int (16 : Int32) (([0, 0, 0, 0, 0, 0, 0, 0, 0, 0, 0, 0, 0, 0, 0, 0] : List Int32).map Value.int) (.int 0) := V43.other W44 (Ne.symm ne32)
  have K53 : Keep h0 h44 [a1] := K42.wr W44 (Or.inl (List.mem_of_getElem? (i := 0) rfl))
  obtain ⟨_, _, ⟨T54, L54, kk54, n54⟩, -, X54, ⟨Lc54, hQ54, l54, y54, z54⟩, st54⟩ := Jvm.LawKit.callS X44 hx (y := (⟨"java/lang/Long", "numberOfLeadingZeros", "(J)I"⟩ : MethodName)) hown (mvT hZ (hw _ (List.mem_of_getElem? (i := 26) rfl))) (mvT hZ (hw _ (List.mem_of_getElem? (i := 27) rfl))) (mvT hZ (hw _ (List.mem_of_getElem? (i := 28) rfl))) (mvT hZ (hw _ (List.mem_of_getElem? (i := 29) rfl))) (by decide) (backOf (W := 1) (rm_nlzL l Z a0 hw [] ((16 : Int32).toInt64) h44 n0 (Nat.le_trans Z0 K53.1)) hZ (hw _ (List.mem_of_getElem? (i := 29) rfl)) (hw _ (List.mem_of_getElem? (i := 28) rfl)) (by decide) (by decide)) (g := (mkF m 27 #[.val (.ref a1), .val (.int (16 : Int32))] [(.long ((16 : Int32).toInt64)), (.ref a1)])) rfl (by rw [hml]; rfl) (argsL := [(.long ((16 : Int32).toInt64))]) (rest := [(.ref a1)]) (lenOf pd__J_I rfl) rfl (by show 2 * 0 + _ ≤ _; exact Nat.le_of_eq rfl) (hb hby d3_27) (fun _ _ => ⟨rfl, e44, (by decide : 2 + 0 ≤ _), (by decide : 32 + 0 ≤ _)⟩)
  dsimp only [Pt.U, Pt.locs, Pt.cells, Pt.slots] at X54 l54 y54 z54 st54 hQ54
  subst l54 y54 z54
  obtain ⟨rfl, N54q, qn⟩ := hQ54
  have N54 := Fr.app N44 N54q
  have k55 : ∀ t, Steps p.tables e below (T54.setTop (mkF m 32 #[.val (.ref a1), .val (.int (16 : Int32))] [(.int ((own_nlz64 ((16 : Int32).toInt64)) + (1 : Int32))), (.ref a1)])) t → Steps p.tables e below (s₁.setTop (entryFrame m #[(.ref a1), (.int (16 : Int32))] 2)) t := fun t k => k0 t (by
    show Steps p.tables e below (s₁.setTop (mkF m 0 #[.val (.ref a1), .val (.int (16 : Int32))] [])) _
    refine XS.aloadN X0.here hx rfl (hb hby d3_0) rfl rfl ?_
    show Steps p.tables e below (s₁.setTop (mkF m 1 #[.val (.ref a1), .val (.int (16 : Int32))] [(.ref a1)])) _
    refine XS.iloadN X0.here hx rfl (hb hby d3_1) rfl ?_
    show Steps p.tables e below (s₁.setTop (mkF m 2 #[.val (.ref a1), .val (.int (16 : Int32))] [(.int (16 : Int32)), (.ref a1)])) _
    refine st1 _ ?_
    show Steps p.tables e below (T1.setTop (mkF m 4 #[.val (.ref a1), .val (.int (16 : Int32))] [(.ref b1), (.ref a1)])) _
    refine st12 _ ?_
    show Steps p.tables e below (T12.setTop (mkF m 7 #[.val (.ref a1), .val (.int (16 : Int32))] [])) _
    refine XS.aloadN X12.here hx rfl (hb hby d3_7) rfl rfl ?_
    show Steps p.tables e below (T12.setTop (mkF m 8 #[.val (.ref a1), .val (.int (16 : Int32))] [(.ref a1)])) _
    refine st21 _ ?_
    show Steps p.tables e below (T21.setTop (mkF m 11 #[.val (.ref a1), .val (.int (16 : Int32))] [(.ref b1)])) _
    refine X21.ldc2Long hx hown (mvT hZ (hw _ (List.mem_of_getElem? (i := 18) rfl))) (g := (mkF m 11 #[.val (.ref a1), .val (.int (16 : Int32))] [(.ref b1)])) rfl (hb hby d3_11) _ ?_
    show Steps p.tables e below (T21.setTop (mkF m 14 #[.val (.ref a1), .val (.int (16 : Int32))] [(.long (-1 : Int64)), (.ref b1)])) _
    refine st22 _ ?_
    show Steps p.tables e below (T22.setTop (mkF m 17 #[.val (.ref a1), .val (.int (16 : Int32))] [])) _
    refine XS.aloadN X22.here hx rfl (hb hby d3_17) rfl rfl ?_
    show Steps p.tables e below (T22.setTop (mkF m 18 #[.val (.ref a1), .val (.int (16 : Int32))] [(.ref a1)])) _
    refine XS.iloadN X22.here hx rfl (hb hby d3_18) rfl ?_
    show Steps p.tables e below (T22.setTop (mkF m 19 #[.val (.ref a1), .val (.int (16 : Int32))] [(.int (16 : Int32)), (.ref a1)])) _
    refine st31 _ ?_
    show Steps p.tables e below (T31.setTop (mkF m 21 #[.val (.ref a1), .val (.int (16 : Int32))] [(.ref b31), (.ref a1)])) _
    refine st44 _ ?_
    show Steps p.tables e below (T44.setTop (mkF m 24 #[.val (.ref a1), .val (.int (16 : Int32))] [])) _
    refine XS.aloadN X44.here hx rfl (hb hby d3_24) rfl rfl ?_
    show Steps p.tables e below (T44.setTop (mkF m 25 #[.val (.ref a1), .val (.int (16 : Int32))] [(.ref a1)])) _
    refine XS.iloadN X44.here hx rfl (hb hby d3_25) rfl ?_
    show Steps p.tables e below (T44.setTop (mkF m 26 #[.val (.ref a1), .val (.int (16 : Int32))] [(.int (16 : Int32)), (.ref a1)])) _
    refine XS.i2l X44.here hx rfl (hb hby d3_26) rfl ?_
    show Steps p.tables e below (T44.setTop (mkF m 27 #[.val (.ref a1), .val (.int (16 : Int32))] [(.long ((16 : Int32).toInt64)), (.ref a1)])) _
    refine st54 _ ?_
    show Steps p.tables e below (T54.setTop (mkF m 30 #[.val (.ref a1), .val (.int (16 : Int32))] [(.int (own_nlz64 ((16 : Int32).toInt64))), (.ref a1)])) _
    refine XS.iconst X54.here hx rfl (hb hby d3_30) ?_
    show Steps p.tables e below (T54.setTop (mkF m 31 #[.val (.ref a1), .val (.int (16 : Int32))] [(.int (1 : Int32)), (.int (own_nlz64 ((16 : Int32).toInt64))), (.ref a1)])) _
    refine XS.iadd X54.here hx rfl (hb hby d3_31) rfl ?_
    exact k)
  have qk56 : ((own_nlz64 ((16 : Int32).toInt64)) + (1 : Int32)) = (60 : Int32) := by decide
  have k56 : ∀ t, Steps p.tables e below (T54.setTop (mkF m 32 #[.val (.ref a1), .val (.int (16 : Int32))] [(.int (60 : Int32)), (.ref a1)])) t → Steps p.tables e below (s₁.setTop (entryFrame m #[(.ref a1), (.int (16 : Int32))] 2)) t := by rw [qk56] at k55; exact k55
  obtain ⟨T57, h57, X57, e57, W57, st57⟩ := putF X54 hx hZ hown (host := "") (Or.inl (hw _ (List.mem_of_getElem? (i := 35) rfl))) Via.refl qn F50 E46 (Or.inl (hw _ (List.mem_of_getElem? (i := 36) rfl))) (hw _ (List.mem_of_getElem? (i := 1) rfl)) (ty := .int) (by decide) rfl rfl (g := (mkF m 32 #[.val (.ref a1), .val (.int (16 : Int32))] [(.int (60 : Int32)), (.ref a1)])) rfl rfl (hb hby d3_32)
  have N57 := Fr.snoc X57 N54 g_a1
  have F58 : Fld Z h57 a1 "com/example/histories_to_cohorts/historiestocohorts/service/SetTrie" "shift" "I" (.int (60 : Int32)) := F50.same W57
  have E59 : Exa Z h57 a1 "com/example/histories_to_cohorts/historiestocohorts/service/SetTrie" := E46.wr W57
  have F60 : Fld Z h57 a1 "com/example/histories_to_cohorts/historiestocohorts/service/SetTrie" "keys" "[J" (.ref b1) := F47.other W57 (Or.inr (slot_ne (Or.inl (hw _ (List.mem_of_getElem? (i := 17) rfl))) (Or.inl (hw _ (List.mem_of_getElem? (i := 36) rfl))) (by decide) (t := (.array .long)) (t' := .int) (by decide) (by decide)))
  have F61 : Fld Z h57 a1 "com/example/histories_to_cohorts/historiestocohorts/service/SetTrie" "children" "[I" (.ref b31) := F45.other W57 (Or.inr (slot_ne (Or.inl (hw _ (List.mem_of_getElem? (i := 25) rfl))) (Or.inl (hw _ (List.mem_of_getElem? (i := 36) rfl))) (by decide) (t := (.array .int)) (t' := .int) (by decide) (by decide)))
  have F62 : Fld Z h57 a1 "com/example/histories_to_cohorts/historiestocohorts/service/SetTrie" "counts" "[I" .null := F48.other W57 (Or.inr (slot_ne (Or.inl (hw _ (List.mem_of_getElem? (i := 38) rfl))) (Or.inl (hw _ (List.mem_of_getElem? (i := 36) rfl))) (by decide) (t := (.array .int)) (t' := .int) (by decide) (by decide)))
  have F63 : Fld Z h57 a1 "com/example/histories_to_cohorts/historiestocohorts/service/SetTrie" "nodes" "I" (.int (1 : Int32)) := F49.other W57 (Or.inr (slot_ne (Or.inl (hw _ (List.mem_of_getElem? (i := 10) rfl))) (Or.inl (hw _ (List.mem_of_getElem? (i := 36) rfl))) (by decide) (t := .int) (t' := .int) (by decide) (by decide)))
  have V64 : Arv Z h57 b1 kc1 .long (16 : Int32) (own_M16.map Value.long) (.long 0) := V51.other W57 (Ne.symm ne2)
  have V65 : Arv Z h57 b31 kc31 .int (16 : Int32) (([0, 0, 0, 0, 0, 0, 0, 0, 0, 0, 0, 0, 0, 0, 0, 0] : List Int32).map Value.int) (.int 0) := V52.other W57 (Ne.symm ne32)
  have K66 : Keep h0 h57 [a1] := K53.wr W57 (Or.inl (List.mem_of_getElem? (i := 0) rfl))
  have k68 : ∀ t, Steps p.tables e below (T57.setTop (mkF m 35 #[.val (.ref a1), .val (.int (16 : Int32))] [])) t → Steps p.tables e below (s₁.setTop (entryFrame m #[(.ref a1), (.int (16 : Int32))] 2)) t := fun t k => k56 t (by
    show Steps p.tables e below (T54.setTop (mkF m 32 #[.val (.ref a1), .val (.int (16 : Int32))] [(.int (60 : Int32)), (.ref a1)])) _
    refine st57 _ ?_
    exact k)
  obtain ⟨fs, hr, hrun, hended, hW, hsame⟩ := X57.leave (v := none) (fun _ => rfl) (BodyLoose.notSynchronized Bd)
  refine ⟨_, _, k68 _ ?_, hrun, hended, _, _, rfl, ?_, ⟨_, rfl⟩, hW, hsame.mono (by decide) (by decide)⟩
  · show Steps p.tables e below (T57.setTop (mkF m 35 #[.val (.ref a1), .val (.int (16 : Int32))] [])) _
    exact X57.returnOut hx Bd.returns (hb hby d3_35) hr
  ·
    show Qalloc _ a1 h0 n0 _ T57.heap _
    rw [e57]
    exact ⟨rfl, N57, K66, b1, b31, kc1, kc31, ⟨sz_b1, sz_b31, ne33⟩, E59, F60, F61, F62, F63, F58, V64, V65⟩
abbrev own_ST (Z : State) (h : Heap) (a : Addr) (nd : Int32) (KS : List Int64) (CH : List Int32) (ak ac an : Addr) (kk kc kn : ClassId) : Prop := Exa Z h a "com/example/histories_to_cohorts/historiestocohorts/service/SetTrie" ∧ Fld Z h a "com/example/histories_to_cohorts/historiestocohorts/service/SetTrie" "keys" "[J" (.ref ak) ∧ Fld Z h a "com/example/histories_to_cohorts/historiestocohorts/service/SetTrie" "children" "[I" (.ref ac) ∧ Fld Z h a "com/example/histories_to_cohorts/historiestocohorts/service/SetTrie" "counts" "[I" (.ref an) ∧ Fld Z h a "com/example/histories_to_cohorts/historiestocohorts/service/SetTrie" "nodes" "I" (.int nd) ∧ Fld Z h a "com/example/histories_to_cohorts/historiestocohorts/service/SetTrie" "shift" "I" (.int 60) ∧ Arv Z h ak kk .long 16 (KS.map Value.long) (.long 0) ∧ Arv Z h ac kc .int 16 (CH.map Value.int) (.int 0) ∧ Arv Z h an kn .int 16 (own_Z16.map Value.int) (.int 0)
theorem pd__I_V : parseMethodDescriptor "(I)V" = some ⟨[.int], none⟩ := by decide +kernel
theorem d1_0 : decode prog_40_method_1_code 0 = .ok (.aload_n 0, 1) := by decide +kernel
theorem d1_1 : decode prog_40_method_1_code 1 = .ok (.invokespecial 1, 3) := by decide +kernel
theorem d1_4 : decode prog_40_method_1_code 4 = .ok (.aload_n 0, 1) := by decide +kernel
theorem d1_5 : decode prog_40_method_1_code 5 = .ok (.iconst 1, 1) := by decide +kernel
theorem d1_6 : decode prog_40_method_1_code 6 = .ok (.putfield 7, 3) := by decide +kernel
theorem d1_9 : decode prog_40_method_1_code 9 = .ok (.aload_n 0, 1) := by decide +kernel
theorem d1_10 : decode prog_40_method_1_code 10 = .ok (.bipush 16, 2) := by decide +kernel
theorem d1_12 : decode prog_40_method_1_code 12 = .ok (.invokevirtual 13, 3) := by decide +kernel
theorem d1_15 : decode prog_40_method_1_code 15 = .ok (.aload_n 0, 1) := by decide +kernel
theorem d1_16 : decode prog_40_method_1_code 16 = .ok (.bipush 16, 2) := by decide +kernel
theorem d1_18 : decode prog_40_method_1_code 18 = .ok (.newarray .int, 2) := by decide +kernel
theorem d1_20 : decode prog_40_method_1_code 20 = .ok (.putfield 17, 3) := by decide +kernel
theorem d1_23 : decode prog_40_method_1_code 23 = .ok (.return_, 1) := by decide +kernel
theorem pn_1 : plainName "com/example/histories_to_cohorts/historiestocohorts/service/SetTrie" = true := by first | (simp [plainName, overriddenIn]; done) | decide +kernel
theorem ef_init (m : MethodId) (x0 : Addr) : entryFrame m #[(.ref x0)] 1 = mkF m 0 #[.val (.ref x0)] [] := by first | (simp [entryFrame, mkF, argsToLocals, Value.category]; done) | rfl
def Qinit (Z : State) (a1 : Addr) (h0 : Heap) (n0 : Nat) (v : Option Value) (h : Heap) (L : List Loc) : Prop := v = none ∧ Fr n0 L ∧ Keep h0 h [a1] ∧ ∃ (ak ac an : Addr) (kk kc kn : ClassId), (h0.size ≤ ak ∧ h0.size ≤ ac ∧ h0.size ≤ an ∧ ak ≠ ac ∧ ak ≠ an ∧ ac ≠ an) ∧ own_ST Z h a1 1 own_M16 own_Z16 ak ac an kk kc kn
set_option maxRecDepth 65536 in
set_option maxHeartbeats 40000000 in
theorem rm_init (l : Launch) (Z : State) (a0 : Array Value) (hw : ∀ d ∈ tables_1, d.before a0 Z = true) (ws : List Jvm.Cond) (a1 : Addr) (h0 : Heap) (n0 : Nat) (Z0 : n0 ≤ h0.size) (E_a1 : Exa Z h0 a1 "com/example/histories_to_cohorts/historiestocohorts/service/SetTrie") (F_keys : Fld Z h0 a1 "com/example/histories_to_cohorts/historiestocohorts/service/SetTrie" "keys" "[J" .null) (F_children : Fld Z h0 a1 "com/example/histories_to_cohorts/historiestocohorts/service/SetTrie" "children" "[I" .null) (F_counts : Fld Z h0 a1 "com/example/histories_to_cohorts/historiestocohorts/service/SetTrie" "counts" "[I" .null) (F_nodes : Fld Z h0 a1 "com/example/histories_to_cohorts/historiestocohorts/service/SetTrie" "nodes" "I" (.int (0 : Int32))) (F_shift : Fld Z h0 a1 "com/example/histories_to_cohorts/historiestocohorts/service/SetTrie" "shift" "I" (.int (0 : Int32))) (g_a1 : n0 ≤ a1) :
    MetFree l (⟨"com/example/histories_to_cohorts/historiestocohorts/service/SetTrie", "<init>", "()V"⟩ : MethodName) (head1 (Jvm.Cond.code (⟨"com/example/histories_to_cohorts/historiestocohorts/service/SetTrie", "<init>", "()V"⟩ : MethodName) prog_40_method_1_code 1 none :: ws) ({ frames := 3, cells := 3, slots := 48, locals := 42 } : Room)) (fun a U => a = #[(.ref a1)] ∧ Z.Warmed39 U.vm ∧ U.heap = h0) (fun _ _ _ _ _ => True) (fun _ U o U' => ∃ v L, o = .returned v ∧ Qinit Z a1 h0 n0 v U'.heap L ∧ FrameEnd U o U' L ({ frames := 3, cells := 3, slots := 48, locals := 42 } : Room).cells ({ frames := 3, cells := 3, slots := 48, locals := 42 } : Room).slots) := by
  refine MetFree.of_bodySF (plainFor_of_name pn_1) hisR ?_
  intro p e s m args below meth c s₁ Bd hml0 hP hK
  obtain ⟨rfl, hZ, hh⟩ := hP
  have hx := Bd.exec
  have hby := Bd.bytes
  have hml : c.maxLocals = 1 := hml0
  have hown : s.vm.findClass "com/example/histories_to_cohorts/historiestocohorts/service/SetTrie" = some m.cls := findClass_of_methodNamed Bd.named
  have hnm := (name_of_methodNamed Bd.named Bd.method).1
  have X0 : Stand p l e ({ frames := 3, cells := 3, slots := 48, locals := 42 } : Room) s m #[(.ref a1)] below meth c s₁ [] 0 0 := Stand.of_body Bd
  have e0 : s₁.heap = h0 := by rw [← hh, Bd.state]; rfl
  have N0 := Fr.nil n0
  have k0 : ∀ t, Steps p.tables e below (s₁.setTop (mkF m 0 #[.val (.ref a1)] [])) t → Steps p.tables e below (s₁.setTop (entryFrame m #[(.ref a1)] 1)) t := fun t k => castTop (ef_init m a1) k
  obtain ⟨T1, X1, e1, st1⟩ := initO X0 hx hZ hown (hw _ (List.mem_of_getElem? (i := 6) rfl)) (hw _ (List.mem_of_getElem? (i := 7) rfl)) (hw _ (List.mem_of_getElem? (i := 8) rfl)) e0 (g := (mkF m 1 #[.val (.ref a1)] [(.ref a1)])) rfl (by rw [hml]; rfl) rfl (hb hby d1_1) (by decide) (W := 0) (by show 2 * 0 + _ ≤ _; exact Nat.le_of_eq rfl) (by decide)
  obtain ⟨T2, h2, X2, e2, W2, st2⟩ := putF X1 hx hZ hown (host := "") (Or.inl (hw _ (List.mem_of_getElem? (i := 9) rfl))) Via.refl e1 F_nodes E_a1 (Or.inl (hw _ (List.mem_of_getElem? (i := 10) rfl))) (hw _ (List.mem_of_getElem? (i := 1) rfl)) (ty := .int) (by decide) rfl rfl (g := (mkF m 6 #[.val (.ref a1)] [(.int (1 : Int32)), (.ref a1)])) rfl rfl (hb hby d1_6)
  have N2 := Fr.snoc X2 N0 g_a1
  have F3 : Fld Z h2 a1 "com/example/histories_to_cohorts/historiestocohorts/service/SetTrie" "nodes" "I" (.int (1 : Int32)) := F_nodes.same W2
  have E4 : Exa Z h2 a1 "com/example/histories_to_cohorts/historiestocohorts/service/SetTrie" := E_a1.wr W2
  have F5 : Fld Z h2 a1 "com/example/histories_to_cohorts/historiestocohorts/service/SetTrie" "keys" "[J" .null := F_keys.other W2 (Or.inr (slot_ne (Or.inl (hw _ (List.mem_of_getElem? (i := 17) rfl))) (Or.inl (hw _ (List.mem_of_getElem? (i := 10) rfl))) (by decide) (t := (.array .long)) (t' := .int) (by decide) (by decide)))
  have F6 : Fld Z h2 a1 "com/example/histories_to_cohorts/historiestocohorts/service/SetTrie" "children" "[I" .null := F_children.other W2 (Or.inr (slot_ne (Or.inl (hw _ (List.mem_of_getElem? (i := 25) rfl))) (Or.inl (hw _ (List.mem_of_getElem? (i := 10) rfl))) (by decide) (t := (.array .int)) (t' := .int) (by decide) (by decide)))
  have F7 : Fld Z h2 a1 "com/example/histories_to_cohorts/historiestocohorts/service/SetTrie" "counts" "[I" .null := F_counts.other W2 (Or.inr (slot_ne (Or.inl (hw _ (List.mem_of_getElem? (i := 38) rfl))) (Or.inl (hw _ (List.mem_of_getElem? (i := 10) rfl))) (by decide) (t := (.array .int)) (t' := .int) (by decide) (by decide)))
  have F8 : Fld Z h2 a1 "com/example/histories_to_cohorts/historiestocohorts/service/SetTrie" "shift" "I" (.int (0 : Int32)) := F_shift.other W2 (Or.inr (slot_ne (Or.inl (hw _ (List.mem_of_getElem? (i := 36) rfl))) (Or.inl (hw _ (List.mem_of_getElem? (i := 10) rfl))) (by decide) (t := .int) (t' := .int) (by decide) (by decide)))
  have K9 : Keep h0 h2 [a1] := (Keep.refl h0 [a1]).wr W2 (Or.inl (List.mem_of_getElem? (i := 0) rfl))
  obtain ⟨cpv10, pv10, pv10'⟩ := E4.cell
  obtain ⟨_, _, ⟨T10, L10, kk10, n10⟩, -, X10, ⟨Lc10, hQ10, l10, y10, z10⟩, st10⟩ := X2.privateBack hx (y := (⟨"com/example/histories_to_cohorts/historiestocohorts/service/SetTrie", "allocate", "(I)V"⟩ : MethodName)) hown (mvT hZ (hw _ (List.mem_of_getElem? (i := 11) rfl))) (mvT hZ (hw _ (List.mem_of_getElem? (i := 12) rfl))) (mvT hZ (own_sel (hw _ (List.mem_of_getElem? (i := 12) rfl)) (hw _ (List.mem_of_getElem? (i := 13) rfl)) (hw _ (List.mem_of_getElem? (i := 1) rfl)) (by decide))) (Cond.privateMethod_at (mvP hZ (hw _ (List.mem_of_getElem? (i := 13) rfl)) (args := #[]))) (mvT hZ (hw _ (List.mem_of_getElem? (i := 14) rfl))) (by decide) (backOf (W := 0) (rm_alloc l Z a0 hw [] a1 h2 n0 (Nat.le_trans Z0 K9.1) E4 F5 F6 F7 F3 F8 g_a1) hZ (hw _ (List.mem_of_getElem? (i := 14) rfl)) (hw _ (List.mem_of_getElem? (i := 2) rfl)) (by decide) (by decide)) (g := (mkF m 12 #[.val (.ref a1)] [(.int (16 : Int32)), (.ref a1)])) rfl (by rw [hml]; rfl) (Steps.refl _) (a := a1) (by rw [e2]; exact pv10) pv10' (argsL := [(.int (16 : Int32))]) (rest := []) (lenOf pd__I_V rfl) rfl (by show 2 * 0 + _ ≤ _; exact Nat.le_of_eq rfl) (hb hby d1_12) (fun _ _ => ⟨rfl, e2, (by decide : 0 + 2 ≤ _), (by decide : 0 + 32 ≤ _)⟩)
  dsimp only [Pt.U, Pt.locs, Pt.cells, Pt.slots] at X10 l10 y10 z10 st10 hQ10
  subst l10 y10 z10
  obtain ⟨rfl, N10q, Ka, ak, ac, kk, kc, ⟨za, zc, nac⟩, Ea, Fk, Fc, Fn, Fo, Fs, Vk, Vc⟩ := hQ10
  have N10 := Fr.app N2 N10q
  have K11 : Keep h0 T10.heap [a1] := K9.trans Ka (allS (Or.inl (List.mem_of_getElem? (i := 0) rfl)) all0)
  have E12 : Exa Z T10.heap a1 "com/example/histories_to_cohorts/historiestocohorts/service/SetTrie" := E4.keep Ka
  have sz_ak : h0.size ≤ ak := Nat.le_trans K9.1 za
  have sz_ac : h0.size ≤ ac := Nat.le_trans K9.1 zc
  have nak : a1 ≠ ak := Nat.ne_of_lt (Nat.lt_of_lt_of_le E4.lt za)
  have nac1 : a1 ≠ ac := Nat.ne_of_lt (Nat.lt_of_lt_of_le E4.lt zc)
  have E13 : Exa Z T10.heap a1 "com/example/histories_to_cohorts/historiestocohorts/service/SetTrie" := Ea
  have F14 : Fld Z T10.heap a1 "com/example/histories_to_cohorts/historiestocohorts/service/SetTrie" "keys" "[J" (.ref ak) := Fk
  have F15 : Fld Z T10.heap a1 "com/example/histories_to_cohorts/historiestocohorts/service/SetTrie" "children" "[I" (.ref ac) := Fc
  have F16 : Fld Z T10.heap a1 "com/example/histories_to_cohorts/historiestocohorts/service/SetTrie" "counts" "[I" .null := Fn
  have F17 : Fld Z T10.heap a1 "com/example/histories_to_cohorts/historiestocohorts/service/SetTrie" "nodes" "I" (.int (1 : Int32)) := Fo
  have F18 : Fld Z T10.heap a1 "com/example/histories_to_cohorts/historiestocohorts/service/SetTrie" "shift" "I" (.int (60 : Int32)) := Fs
  have V19 : Arv Z T10.heap ak kk .long (16 : Int32) (own_M16.map Value.long) (.long 0) := Vk
  have V20 : Arv Z T10.heap ac kc .int (16 : Int32) (own_Z16.map Value.int) (.int 0) := Vc
  obtain ⟨T21, h21, kc21, X21, e21, Ex21, A21, st21⟩ := newP X10 hx hZ (hw _ (List.mem_of_getElem? (i := 23) rfl)) rfl (g := (mkF m 18 #[.val (.ref a1)] [(.int (16 : Int32)), (.ref a1)])) rfl (hb hby d1_18) rfl (by decide) (cap := 16) (by decide) (by decide) (by decide) (by decide)
  obtain ⟨b21, g21⟩ : ∃ z, z = T10.heap.size := ⟨_, rfl⟩
  rw [← g21] at A21 st21
  have sz_b21 : h0.size ≤ b21 := Nat.le_trans K11.1 (Nat.le_of_eq g21.symm)
  have g_b21 : n0 ≤ b21 := Nat.le_trans Z0 sz_b21
  have ne22 : a1 ≠ b21 := Nat.ne_of_lt (Nat.lt_of_lt_of_le E13.lt (Nat.le_of_eq g21.symm))
  have ne23 : ak ≠ b21 := Nat.ne_of_lt (Nat.lt_of_lt_of_le V19.lt (Nat.le_of_eq g21.symm))
  have ne24 : ac ≠ b21 := Nat.ne_of_lt (Nat.lt_of_lt_of_le V20.lt (Nat.le_of_eq g21.symm))
  have E25 : Exa Z h21 a1 "com/example/histories_to_cohorts/historiestocohorts/service/SetTrie" := E13.ext Ex21
  have F26 : Fld Z h21 a1 "com/example/histories_to_cohorts/historiestocohorts/service/SetTrie" "keys" "[J" (.ref ak) := F14.ext Ex21
  have F27 : Fld Z h21 a1 "com/example/histories_to_cohorts/historiestocohorts/service/SetTrie" "children" "[I" (.ref ac) := F15.ext Ex21
  have F28 : Fld Z h21 a1 "com/example/histories_to_cohorts/historiestocohorts/service/SetTrie" "counts" "[I" .null := F16.ext Ex21
  have F29 : Fld Z h21 a1 "com/example/histories_to_cohorts/historiestocohorts/service/SetTrie" "nodes" "I" (.int (1 : Int32)) := F17.ext Ex21
  have F30 : Fld Z h21 a1 "com/example/histories_to_cohorts/historiestocohorts/service/SetTrie" "shift" "I" (.int (60 : Int32)) := F18.ext Ex21
  have V31 : Arv Z h21 ak kk .long (16 : Int32) (own_M16.map Value.long) (.long 0) := V19.ext Ex21
  have V32 : Arv Z h21 ac kc .int (16 : Int32) (own_Z16.map Value.int) (.int 0) := V20.ext Ex21
  have V33 : Arv Z h21 b21 kc21 .int (16 : Int32) [] (defaultValue .int) := Arv.new A21 (by decide)
  have K34 : Keep h0 h21 [a1] := K11.ext Ex21
  have V35 : Arv Z h21 b21 kc21 .int (16 : Int32) (([0, 0, 0, 0, 0, 0, 0, 0, 0, 0, 0, 0, 0, 0, 0, 0] : List Int32).map Value.int) (.int 0) := V33.pad (pad_rep [] _ 16)
  obtain ⟨T36, h36, X36, e36, W36, st36⟩ := putF X21 hx hZ hown (host := "") (Or.inl (hw _ (List.mem_of_getElem? (i := 37) rfl))) Via.refl e21 F28 E25 (Or.inl (hw _ (List.mem_of_getElem? (i := 38) rfl))) (hw _ (List.mem_of_getElem? (i := 1) rfl)) (ty := (.array .int)) (by decide) rfl rfl (g := (mkF m 20 #[.val (.ref a1)] [(.ref b21), (.ref a1)])) rfl rfl (hb hby d1_20)
  have N36 := Fr.snoc X36 N10 g_a1
  have F37 : Fld Z h36 a1 "com/example/histories_to_cohorts/historiestocohorts/service/SetTrie" "counts" "[I" (.ref b21) := F28.same W36
  have E38 : Exa Z h36 a1 "com/example/histories_to_cohorts/historiestocohorts/service/SetTrie" := E25.wr W36
  have F39 : Fld Z h36 a1 "com/example/histories_to_cohorts/historiestocohorts/service/SetTrie" "keys" "[J" (.ref ak) := F26.other W36 (Or.inr (slot_ne (Or.inl (hw _ (List.mem_of_getElem? (i := 17) rfl))) (Or.inl (hw _ (List.mem_of_getElem? (i := 38) rfl))) (by decide) (t := (.array .long)) (t' := (.array .int)) (by decide) (by decide)))
  have F40 : Fld Z h36 a1 "com/example/histories_to_cohorts/historiestocohorts/service/SetTrie" "children" "[I" (.ref ac) := F27.other W36 (Or.inr (slot_ne (Or.inl (hw _ (List.mem_of_getElem? (i := 25) rfl))) (Or.inl (hw _ (List.mem_of_getElem? (i := 38) rfl))) (by decide) (t := (.array .int)) (t' := (.array .int)) (by decide) (by decide)))
  have F41 : Fld Z h36 a1 "com/example/histories_to_cohorts/historiestocohorts/service/SetTrie" "nodes" "I" (.int (1 : Int32)) := F29.other W36 (Or.inr (slot_ne (Or.inl (hw _ (List.mem_of_getElem? (i := 10) rfl))) (Or.inl (hw _ (List.mem_of_getElem? (i := 38) rfl))) (by decide) (t := .int) (t' := (.array .int)) (by decide) (by decide)))
  have F42 : Fld Z h36 a1 "com/example/histories_to_cohorts/historiestocohorts/service/SetTrie" "shift" "I" (.int (60 : Int32)) := F30.other W36 (Or.inr (slot_ne (Or.inl (hw _ (List.mem_of_getElem? (i := 36) rfl))) (Or.inl (hw _ (List.mem_of_getElem? (i := 38) rfl))) (by decide) (t := .int) (t' := (.array .int)) (by decide) (by decide)))
  have V43 : Arv Z h36 ak kk .long (16 : Int32) (own_M16.map Value.long) (.long 0) := V31.other W36 (Ne.symm nak)
  have V44 : Arv Z h36 ac kc .int (16 : Int32) (own_Z16.map Value.int) (.int 0) := V32.other W36 (Ne.symm nac1)
  have V45 : Arv Z h36 b21 kc21 .int (16 : Int32) (([0, 0, 0, 0, 0, 0, 0, 0, 0, 0, 0, 0, 0, 0, 0, 0] : List Int32).map Value.int) (.int 0) := V35.other W36 (Ne.symm ne22)
  have K46 : Keep h0 h36 [a1] := K34.wr W36 (Or.inl (List.mem_of_getElem? (i := 0) rfl))
  have k48 : ∀ t, Steps p.tables e below (T36.setTop (mkF m 23 #[.val (.ref a1)] [])) t → Steps p.tables e below (s₁.setTop (entryFrame m #[(.ref a1)] 1)) t := fun t k => k0 t (by
    show Steps p.tables e below (s₁.setTop (mkF m 0 #[.val (.ref a1)] [])) _
    refine XS.aloadN X0.here hx rfl (hb hby d1_0) rfl rfl ?_
    show Steps p.tables e below (s₁.setTop (mkF m 1 #[.val (.ref a1)] [(.ref a1)])) _
    refine st1 _ ?_
    show Steps p.tables e below (T1.setTop (mkF m 4 #[.val (.ref a1)] [])) _
    refine XS.aloadN X1.here hx rfl (hb hby d1_4) rfl rfl ?_
    show Steps p.tables e below (T1.setTop (mkF m 5 #[.val (.ref a1)] [(.ref a1)])) _
    refine XS.iconst X1.here hx rfl (hb hby d1_5) ?_
    show Steps p.tables e below (T1.setTop (mkF m 6 #[.val (.ref a1)] [(.int (1 : Int32)), (.ref a1)])) _
    refine st2 _ ?_
    show Steps p.tables e below (T2.setTop (mkF m 9 #[.val (.ref a1)] [])) _
    refine XS.aloadN X2.here hx rfl (hb hby d1_9) rfl rfl ?_
    show Steps p.tables e below (T2.setTop (mkF m 10 #[.val (.ref a1)] [(.ref a1)])) _
    refine XS.bipush X2.here hx rfl (hb hby d1_10) ?_
    show Steps p.tables e below (T2.setTop (mkF m 12 #[.val (.ref a1)] [(.int (16 : Int32)), (.ref a1)])) _
    refine st10.trans ?_
    show Steps p.tables e below (T10.setTop (mkF m 15 #[.val (.ref a1)] [])) _
    refine XS.aloadN X10.here hx rfl (hb hby d1_15) rfl rfl ?_
    show Steps p.tables e below (T10.setTop (mkF m 16 #[.val (.ref a1)] [(.ref a1)])) _
    refine XS.bipush X10.here hx rfl (hb hby d1_16) ?_
    show Steps p.tables e below (T10.setTop (mkF m 18 #[.val (.ref a1)] [(.int (16 : Int32)), (.ref a1)])) _
    refine st21 _ ?_
    show Steps p.tables e below (T21.setTop (mkF m 20 #[.val (.ref a1)] [(.ref b21), (.ref a1)])) _
    refine st36 _ ?_
    exact k)
  obtain ⟨fs, hr, hrun, hended, hW, hsame⟩ := X36.leave (v := none) (fun _ => rfl) (BodyLoose.notSynchronized Bd)
  refine ⟨_, _, k48 _ ?_, hrun, hended, _, _, rfl, ?_, ⟨_, rfl⟩, hW, hsame.mono (by decide) (by decide)⟩
  · show Steps p.tables e below (T36.setTop (mkF m 23 #[.val (.ref a1)] [])) _
    exact X36.returnOut hx Bd.returns (hb hby d1_23) hr
  ·
    show Qinit _ a1 h0 n0 _ T36.heap _
    rw [e36]
    exact ⟨rfl, N36, K46, ak, ac, b21, kk, kc, kc21, ⟨sz_ak, sz_ac, sz_b21, nac, ne23, ne24⟩, ⟨E38, F39, F40, F37, F41, F42, V43, V44, V45⟩⟩
def own_key (p1 : Int32) (p2 : Int32) : Int64 := (((p1.toInt64) <<< ((32 : Int32) &&& 0x3f).toInt64) ||| ((p2.toInt64) &&& (4294967295 : Int64)))
theorem d8_0 : decode prog_40_method_6_code 0 = .ok (.iload_n 0, 1) := by decide +kernel
theorem d8_1 : decode prog_40_method_6_code 1 = .ok (.i2l, 1) := by decide +kernel
theorem d8_2 : decode prog_40_method_6_code 2 = .ok (.bipush 32, 2) := by decide +kernel
theorem d8_4 : decode prog_40_method_6_code 4 = .ok (.lshl, 1) := by decide +kernel
theorem d8_5 : decode prog_40_method_6_code 5 = .ok (.iload_n 1, 1) := by decide +kernel
theorem d8_6 : decode prog_40_method_6_code 6 = .ok (.i2l, 1) := by decide +kernel
theorem d8_7 : decode prog_40_method_6_code 7 = .ok (.ldc2_w 51, 3) := by decide +kernel
theorem d8_10 : decode prog_40_method_6_code 10 = .ok (.land, 1) := by decide +kernel
theorem d8_11 : decode prog_40_method_6_code 11 = .ok (.lor, 1) := by decide +kernel
theorem d8_12 : decode prog_40_method_6_code 12 = .ok (.lreturn, 1) := by decide +kernel
theorem pn_8 : plainName "com/example/histories_to_cohorts/historiestocohorts/service/SetTrie" = true := by first | (simp [plainName, overriddenIn]; done) | decide +kernel
theorem ef_key (m : MethodId) (x0 : Int32) (x1 : Int32) : entryFrame m #[(.int x0), (.int x1)] 2 = mkF m 0 #[.val (.int x0), .val (.int x1)] [] := by first | (simp [entryFrame, mkF, argsToLocals, Value.category]; done) | rfl
def Qkey (Z : State) (p1 : Int32) (p2 : Int32) (h0 : Heap) (n0 : Nat) (v : Option Value) (h : Heap) (L : List Loc) : Prop := v = some (.long (own_key p1 p2)) ∧ Fr n0 L ∧ h = h0
set_option maxRecDepth 65536 in
set_option maxHeartbeats 40000000 in
theorem rm_key (l : Launch) (Z : State) (a0 : Array Value) (hw : ∀ d ∈ tables_1, d.before a0 Z = true) (ws : List Jvm.Cond) (p1 : Int32) (p2 : Int32) (h0 : Heap) (n0 : Nat) (Z0 : n0 ≤ h0.size) :
    MetFree l (⟨"com/example/histories_to_cohorts/historiestocohorts/service/SetTrie", "key", "(II)J"⟩ : MethodName) (head1 (Jvm.Cond.code (⟨"com/example/histories_to_cohorts/historiestocohorts/service/SetTrie", "key", "(II)J"⟩ : MethodName) prog_40_method_6_code 2 (some .long) :: ws) ({ frames := 0, cells := 0, slots := 0, locals := 0 } : Room)) (fun a U => a = #[(.int p1), (.int p2)] ∧ Z.Warmed39 U.vm ∧ U.heap = h0) (fun _ _ _ _ _ => True) (fun _ U o U' => ∃ v L, o = .returned v ∧ Qkey Z p1 p2 h0 n0 v U'.heap L ∧ FrameEnd U o U' L ({ frames := 0, cells := 0, slots := 0, locals := 0 } : Room).cells ({ frames := 0, cells := 0, slots := 0, locals := 0 } : Room).slots) := by
  refine MetFree.of_bodySF (plainFor_of_name pn_8) hisR ?_
  intro p e s m args below meth c s₁ Bd hml0 hP hK
  obtain ⟨rfl, hZ, hh⟩ := hP
  have hx := Bd.exec
  have hby := Bd.bytes
  have hml : c.maxLocals = 2 := hml0
  have hown : s.vm.findClass "com/example/histories_to_cohorts/historiestocohorts/service/SetTrie" = some m.cls := findClass_of_methodNamed Bd.named
  have hnm := (name_of_methodNamed Bd.named Bd.method).1
  have X0 : Stand p l e ({ frames := 0, cells := 0, slots := 0, locals := 0 } : Room) s m #[(.int p1), (.int p2)] below meth c s₁ [] 0 0 := Stand.of_body Bd
  have e0 : s₁.heap = h0 := by rw [← hh, Bd.state]; rfl
  have N0 := Fr.nil n0
  have k0 : ∀ t, Steps p.tables e below (s₁.setTop (mkF m 0 #[.val (.int p1), .val (.int p2)] [])) t → Steps p.tables e below (s₁.setTop (entryFrame m #[(.int p1), (.int p2)] 2)) t := fun t k => castTop (ef_key m p1 p2) k
  have hv : own_key p1 p2 = (((p1.toInt64) <<< ((32 : Int32) &&& 0x3f).toInt64) ||| ((p2.toInt64) &&& (4294967295 : Int64))) := rfl
  have k2 : ∀ t, Steps p.tables e below (s₁.setTop (mkF m 12 #[.val (.int p1), .val (.int p2)] [(.long (((p1.toInt64) <<< ((32 : Int32) &&& 0x3f).toInt64) ||| ((p2.toInt64) &&& (4294967295 : Int64))))])) t → Steps p.tables e below (s₁.setTop (entryFrame m #[(.int p1), (.int p2)] 2)) t := fun t k => k0 t (by
    show Steps p.tables e below (s₁.setTop (mkF m 0 #[.val (.int p1), .val (.int p2)] [])) _
    refine XS.iloadN X0.here hx rfl (hb hby d8_0) rfl ?_
    show Steps p.tables e below (s₁.setTop (mkF m 1 #[.val (.int p1), .val (.int p2)] [(.int p1)])) _
    refine XS.i2l X0.here hx rfl (hb hby d8_1) rfl ?_
    show Steps p.tables e below (s₁.setTop (mkF m 2 #[.val (.int p1), .val (.int p2)] [(.long (p1.toInt64))])) _
    refine XS.bipush X0.here hx rfl (hb hby d8_2) ?_
    show Steps p.tables e below (s₁.setTop (mkF m 4 #[.val (.int p1), .val (.int p2)] [(.int (32 : Int32)), (.long (p1.toInt64))])) _
    refine XS.lshl X0.here hx rfl (hb hby d8_4) rfl ?_
    show Steps p.tables e below (s₁.setTop (mkF m 5 #[.val (.int p1), .val (.int p2)] [(.long ((p1.toInt64) <<< ((32 : Int32) &&& 0x3f).toInt64))])) _
    refine XS.iloadN X0.here hx rfl (hb hby d8_5) rfl ?_
    show Steps p.tables e below (s₁.setTop (mkF m 6 #[.val (.int p1), .val (.int p2)] [(.int p2), (.long ((p1.toInt64) <<< ((32 : Int32) &&& 0x3f).toInt64))])) _
    refine XS.i2l X0.here hx rfl (hb hby d8_6) rfl ?_
    show Steps p.tables e below (s₁.setTop (mkF m 7 #[.val (.int p1), .val (.int p2)] [(.long (p2.toInt64)), (.long ((p1.toInt64) <<< ((32 : Int32) &&& 0x3f).toInt64))])) _
    refine X0.ldc2Long hx hown (mvT hZ (hw _ (List.mem_of_getElem? (i := 47) rfl))) (g := (mkF m 7 #[.val (.int p1), .val (.int p2)] [(.long (p2.toInt64)), (.long ((p1.toInt64) <<< ((32 : Int32) &&& 0x3f).toInt64))])) rfl (hb hby d8_7) _ ?_
    show Steps p.tables e below (s₁.setTop (mkF m 10 #[.val (.int p1), .val (.int p2)] [(.long (4294967295 : Int64)), (.long (p2.toInt64)), (.long ((p1.toInt64) <<< ((32 : Int32) &&& 0x3f).toInt64))])) _
    refine XS.land X0.here hx rfl (hb hby d8_10) rfl ?_
    show Steps p.tables e below (s₁.setTop (mkF m 11 #[.val (.int p1), .val (.int p2)] [(.long ((p2.toInt64) &&& (4294967295 : Int64))), (.long ((p1.toInt64) <<< ((32 : Int32) &&& 0x3f).toInt64))])) _
    refine XS.lor X0.here hx rfl (hb hby d8_11) rfl ?_
    exact k)
  obtain ⟨fs, hr, hrun, hended, hW, hsame⟩ := X0.leave (v := some (.long (((p1.toInt64) <<< ((32 : Int32) &&& 0x3f).toInt64) ||| ((p2.toInt64) &&& (4294967295 : Int64))))) (fun h => by rw [Bd.returns] at h; cases h) (BodyLoose.notSynchronized Bd)
  refine ⟨_, _, k2 _ ?_, hrun, hended, _, _, rfl, ?_, ⟨_, rfl⟩, hW, hsame.mono (by decide) (by decide)⟩
  · show Steps p.tables e below (s₁.setTop (mkF m 12 #[.val (.int p1), .val (.int p2)] [(.long (((p1.toInt64) <<< ((32 : Int32) &&& 0x3f).toInt64) ||| ((p2.toInt64) &&& (4294967295 : Int64))))])) _
    exact X0.lreturnOut hx Bd.returns (hb hby d8_12) hr
  ·
    show Qkey _ p1 p2 h0 n0 _ s₁.heap _
    rw [e0]
    exact ⟨by rw [hv], N0, rfl⟩
def own_h (q : Int64) : Int32 := ((((q * (-7046029254386353131 : Int64)).toUInt64 >>> ((60 : Int32) &&& 0x3f).toInt64.toUInt64).toInt64).toInt32)
def own_nx (i : Int32) : Int32 := ((i + (1 : Int32)) &&& ((16 : Int32) - (1 : Int32)))
def own_pr (KS : List Int64) (q : Int64) : Nat → Int32 → Int32
  | 0, i => i
  | n + 1, i => if KS.getD i.toNatClampNeg 0 = (-1 : Int64) then i else if KS.getD i.toNatClampNeg 0 = q then i else own_pr KS q n (own_nx i)
theorem own_pr_s (KS : List Int64) (q : Int64) (n : Nat) (i : Int32) : own_pr KS q (n + 1) i = if KS.getD i.toNatClampNeg 0 = (-1 : Int64) then i else if KS.getD i.toNatClampNeg 0 = q then i else own_pr KS q n (own_nx i) := rfl
theorem own_pr_0 (KS : List Int64) (q : Int64) (i : Int32) : own_pr KS q 0 i = i := rfl
def own_fr (KS : List Int64) : Nat → Int32 → Prop
  | 0, i => KS.getD i.toNatClampNeg 0 = (-1 : Int64)
  | n + 1, i => KS.getD i.toNatClampNeg 0 = (-1 : Int64) ∨ own_fr KS n (own_nx i)
theorem own_fr_s {KS : List Int64} {n : Nat} {i : Int32} (h : own_fr KS (n + 1) i) (c : ¬ KS.getD i.toNatClampNeg 0 = (-1 : Int64)) : own_fr KS n (own_nx i) := Or.resolve_left h c
theorem own_fr_0 {KS : List Int64} {i : Int32} (h : own_fr KS 0 i) : KS.getD i.toNatClampNeg 0 = (-1 : Int64) := h
theorem own_z16 : (16 : Int32).toInt = 16 := by decide
theorem own_z0 : (0 : Int32).toInt = 0 := by decide
theorem own_rg_of {i : Int32} (h0 : 0 ≤ i.toInt) (h1 : i.toInt < 16) : ¬ i < 0 ∧ i < (16 : Int32) := by
  simp only [Int32.lt_iff_toInt_lt, own_z0, own_z16]; omega
theorem own_rg_to {i : Int32} (h : ¬ i < 0 ∧ i < (16 : Int32)) : 0 ≤ i.toInt ∧ i.toInt < 16 := by
  simp only [Int32.lt_iff_toInt_lt, own_z0, own_z16] at h; omega
theorem own_nx_toInt (i : Int32) : (own_nx i).toInt = (i + 1).toInt % 16 := by
  have h := c_mask (i + (1 : Int32)) ((16 : Int32) - (1 : Int32)) 4 (by decide) (by decide)
  have e : ((2 ^ 4 : Nat) : Int) = 16 := by decide
  rw [e] at h; exact h
theorem own_nx_rg (i : Int32) : ¬ own_nx i < 0 ∧ own_nx i < (16 : Int32) := by
  have h := own_nx_toInt i
  exact own_rg_of (by omega) (by omega)
theorem own_nx_val {i : Int32} (hi : ¬ i < 0 ∧ i < (16 : Int32)) : (own_nx i).toInt = (i.toInt + 1) % 16 := by
  have h := own_nx_toInt i; have h1 := c_iadd i 1; have r := rng32 (i + 1); have h2 := own_rg_to hi
  have z : (1 : Int32).toInt = 1 := by decide
  rw [z] at h1; omega
theorem own_h_rg (q : Int64) : ¬ own_h q < 0 ∧ own_h q < (16 : Int32) := by
  have h1 := c_lushr (q * (-7046029254386353131 : Int64)) 60 60 (by decide) (by decide)
  have h2 := c_l2i (((q * (-7046029254386353131 : Int64)).toUInt64 >>> ((60 : Int32) &&& 0x3f).toInt64.toUInt64).toInt64)
  have e : ((2 ^ 60 : Nat) : Int) = 1152921504606846976 := by decide
  rw [e] at h1
  have r := rng32 (own_h q)
  have h3 : ((own_h q).toInt - (((q * (-7046029254386353131 : Int64)).toUInt64 >>> ((60 : Int32) &&& 0x3f).toInt64.toUInt64).toInt64).toInt) % 4294967296 = 0 := h2
  exact own_rg_of (by omega) (by omega)
theorem own_pr_rg (KS : List Int64) (q : Int64) : ∀ (n : Nat) (i : Int32), (¬ i < 0 ∧ i < (16 : Int32)) → (¬ own_pr KS q n i < 0 ∧ own_pr KS q n i < (16 : Int32))
  | 0, i, h => h
  | n + 1, i, h => by
    rw [own_pr_s]
    split
    · exact h
    · split
      · exact h
      · exact own_pr_rg KS q n _ (own_nx_rg i)
theorem d9_0 : decode prog_40_method_7_code 0 = .ok (.lload_n 1, 1) := by decide +kernel
theorem d9_1 : decode prog_40_method_7_code 1 = .ok (.ldc2_w 53, 3) := by decide +kernel
theorem d9_4 : decode prog_40_method_7_code 4 = .ok (.lmul, 1) := by decide +kernel
theorem d9_5 : decode prog_40_method_7_code 5 = .ok (.aload_n 0, 1) := by decide +kernel
theorem d9_6 : decode prog_40_method_7_code 6 = .ok (.getfield 55, 3) := by decide +kernel
theorem d9_9 : decode prog_40_method_7_code 9 = .ok (.lushr, 1) := by decide +kernel
theorem d9_10 : decode prog_40_method_7_code 10 = .ok (.l2i, 1) := by decide +kernel
theorem d9_11 : decode prog_40_method_7_code 11 = .ok (.istore_n 3, 1) := by decide +kernel
theorem d9_12 : decode prog_40_method_7_code 12 = .ok (.aload_n 0, 1) := by decide +kernel
theorem d9_13 : decode prog_40_method_7_code 13 = .ok (.getfield 29, 3) := by decide +kernel
theorem d9_16 : decode prog_40_method_7_code 16 = .ok (.iload_n 3, 1) := by decide +kernel
theorem d9_17 : decode prog_40_method_7_code 17 = .ok (.laload, 1) := by decide +kernel
theorem d9_18 : decode prog_40_method_7_code 18 = .ok (.ldc2_w 33, 3) := by decide +kernel
theorem d9_21 : decode prog_40_method_7_code 21 = .ok (.lcmp, 1) := by decide +kernel
theorem d9_22 : decode prog_40_method_7_code 22 = .ok (.ifCond .eq 29, 3) := by decide +kernel
theorem d9_25 : decode prog_40_method_7_code 25 = .ok (.aload_n 0, 1) := by decide +kernel
theorem d9_26 : decode prog_40_method_7_code 26 = .ok (.getfield 29, 3) := by decide +kernel
theorem d9_29 : decode prog_40_method_7_code 29 = .ok (.iload_n 3, 1) := by decide +kernel
theorem d9_30 : decode prog_40_method_7_code 30 = .ok (.laload, 1) := by decide +kernel
theorem d9_31 : decode prog_40_method_7_code 31 = .ok (.lload_n 1, 1) := by decide +kernel
theorem d9_32 : decode prog_40_method_7_code 32 = .ok (.lcmp, 1) := by decide +kernel
theorem d9_33 : decode prog_40_method_7_code 33 = .ok (.ifCond .eq 18, 3) := by decide +kernel
theorem d9_36 : decode prog_40_method_7_code 36 = .ok (.iload_n 3, 1) := by decide +kernel
theorem d9_37 : decode prog_40_method_7_code 37 = .ok (.iconst 1, 1) := by decide +kernel
theorem d9_38 : decode prog_40_method_7_code 38 = .ok (.iadd, 1) := by decide +kernel
theorem d9_39 : decode prog_40_method_7_code 39 = .ok (.aload_n 0, 1) := by decide +kernel
theorem d9_40 : decode prog_40_method_7_code 40 = .ok (.getfield 29, 3) := by decide +kernel
theorem d9_43 : decode prog_40_method_7_code 43 = .ok (.arraylength, 1) := by decide +kernel
theorem d9_44 : decode prog_40_method_7_code 44 = .ok (.iconst 1, 1) := by decide +kernel
theorem d9_45 : decode prog_40_method_7_code 45 = .ok (.isub, 1) := by decide +kernel
theorem d9_46 : decode prog_40_method_7_code 46 = .ok (.iand, 1) := by decide +kernel
theorem d9_47 : decode prog_40_method_7_code 47 = .ok (.istore_n 3, 1) := by decide +kernel
theorem d9_48 : decode prog_40_method_7_code 48 = .ok (.goto (-36), 3) := by decide +kernel
theorem d9_51 : decode prog_40_method_7_code 51 = .ok (.iload_n 3, 1) := by decide +kernel
theorem d9_52 : decode prog_40_method_7_code 52 = .ok (.ireturn, 1) := by decide +kernel
theorem pn_9 : plainName "com/example/histories_to_cohorts/historiestocohorts/service/SetTrie" = true := by first | (simp [plainName, overriddenIn]; done) | decide +kernel
theorem ef_probe (m : MethodId) (x0 : Addr) (x1 : Int64) : entryFrame m #[(.ref x0), (.long x1)] 4 = mkF m 0 #[.val (.ref x0), .val (.long x1), .second, .unset] [] := by first | (simp [entryFrame, mkF, argsToLocals, Value.category]; done) | rfl
def Qprobe (Z : State) (a1 : Addr) (q2 : Int64) (ak : Addr) (kk : ClassId) (KS : List Int64) (h0 : Heap) (n0 : Nat) (v : Option Value) (h : Heap) (L : List Loc) : Prop := v = some (.int (own_pr KS q2 3 (own_h q2))) ∧ Fr n0 L ∧ h = h0
set_option maxRecDepth 65536 in
set_option maxHeartbeats 40000000 in
theorem rm_probe (l : Launch) (Z : State) (a0 : Array Value) (hw : ∀ d ∈ tables_1, d.before a0 Z = true) (ws : List Jvm.Cond) (a1 : Addr) (q2 : Int64) (ak : Addr) (kk : ClassId) (KS : List Int64) (h0 : Heap) (n0 : Nat) (Z0 : n0 ≤ h0.size) (F1 : Fld Z h0 a1 "com/example/histories_to_cohorts/historiestocohorts/service/SetTrie" "keys" "[J" (.ref ak)) (F2 : Fld Z h0 a1 "com/example/histories_to_cohorts/historiestocohorts/service/SetTrie" "shift" "I" (.int (60 : Int32))) (V1 : Arv Z h0 ak kk .long 16 (KS.map Value.long) (.long 0)) (hz : own_fr KS 3 (own_h q2)) :
    MetFree l (⟨"com/example/histories_to_cohorts/historiestocohorts/service/SetTrie", "probe", "(J)I"⟩ : MethodName) (head1 (Jvm.Cond.code (⟨"com/example/histories_to_cohorts/historiestocohorts/service/SetTrie", "probe", "(J)I"⟩ : MethodName) prog_40_method_7_code 4 (some .int) :: ws) ({ frames := 0, cells := 0, slots := 0, locals := 0 } : Room)) (fun a U => a = #[(.ref a1), (.long q2)] ∧ Z.Warmed39 U.vm ∧ U.heap = h0) (fun _ _ _ _ _ => True) (fun _ U o U' => ∃ v L, o = .returned v ∧ Qprobe Z a1 q2 ak kk KS h0 n0 v U'.heap L ∧ FrameEnd U o U' L ({ frames := 0, cells := 0, slots := 0, locals := 0 } : Room).cells ({ frames := 0, cells := 0, slots := 0, locals := 0 } : Room).slots) := by
  refine MetFree.of_bodySF (plainFor_of_name pn_9) hisR ?_
  intro p e s m args below meth c s₁ Bd hml0 hP hK
  obtain ⟨rfl, hZ, hh⟩ := hP
  have hx := Bd.exec
  have hby := Bd.bytes
  have hml : c.maxLocals = 4 := hml0
  have hown : s.vm.findClass "com/example/histories_to_cohorts/historiestocohorts/service/SetTrie" = some m.cls := findClass_of_methodNamed Bd.named
  have hnm := (name_of_methodNamed Bd.named Bd.method).1
  have X0 : Stand p l e ({ frames := 0, cells := 0, slots := 0, locals := 0 } : Room) s m #[(.ref a1), (.long q2)] below meth c s₁ [] 0 0 := Stand.of_body Bd
  have e0 : s₁.heap = h0 := by rw [← hh, Bd.state]; rfl
  have N0 := Fr.nil n0
  have k0 : ∀ t, Steps p.tables e below (s₁.setTop (mkF m 0 #[.val (.ref a1), .val (.long q2), .second, .unset] [])) t → Steps p.tables e below (s₁.setTop (entryFrame m #[(.ref a1), (.long q2)] 4)) t := fun t k => castTop (ef_probe m a1 q2) k
  obtain ⟨T1, X1, e1, st1⟩ := getF X0 hx hZ hown (host := "") (Or.inl (hw _ (List.mem_of_getElem? (i := 35) rfl))) Via.refl e0 F2 (g := (mkF m 6 #[.val (.ref a1), .val (.long q2), .second, .unset] [(.ref a1), (.long (q2 * (-7046029254386353131 : Int64)))])) rfl rfl (hb hby d9_6)
  have k2 : ∀ t, Steps p.tables e below (T1.setTop (mkF m 12 #[.val (.ref a1), .val (.long q2), .second, .val (.int ((((q2 * (-7046029254386353131 : Int64)).toUInt64 >>> ((60 : Int32) &&& 0x3f).toInt64.toUInt64).toInt64).toInt32))] [])) t → Steps p.tables e below (s₁.setTop (entryFrame m #[(.ref a1), (.long q2)] 4)) t := fun t k => k0 t (by
    show Steps p.tables e below (s₁.setTop (mkF m 0 #[.val (.ref a1), .val (.long q2), .second, .unset] [])) _
    refine XS.lloadN X0.here hx rfl (hb hby d9_0) rfl ?_
    show Steps p.tables e below (s₁.setTop (mkF m 1 #[.val (.ref a1), .val (.long q2), .second, .unset] [(.long q2)])) _
    refine X0.ldc2Long hx hown (mvT hZ (hw _ (List.mem_of_getElem? (i := 52) rfl))) (g := (mkF m 1 #[.val (.ref a1), .val (.long q2), .second, .unset] [(.long q2)])) rfl (hb hby d9_1) _ ?_
    show Steps p.tables e below (s₁.setTop (mkF m 4 #[.val (.ref a1), .val (.long q2), .second, .unset] [(.long (-7046029254386353131 : Int64)), (.long q2)])) _
    refine XS.lmul X0.here hx rfl (hb hby d9_4) rfl ?_
    show Steps p.tables e below (s₁.setTop (mkF m 5 #[.val (.ref a1), .val (.long q2), .second, .unset] [(.long (q2 * (-7046029254386353131 : Int64)))])) _
    refine XS.aloadN X0.here hx rfl (hb hby d9_5) rfl rfl ?_
    show Steps p.tables e below (s₁.setTop (mkF m 6 #[.val (.ref a1), .val (.long q2), .second, .unset] [(.ref a1), (.long (q2 * (-7046029254386353131 : Int64)))])) _
    refine st1 _ ?_
    show Steps p.tables e below (T1.setTop (mkF m 9 #[.val (.ref a1), .val (.long q2), .second, .unset] [(.int (60 : Int32)), (.long (q2 * (-7046029254386353131 : Int64)))])) _
    refine XS.lushr X1.here hx rfl (hb hby d9_9) rfl ?_
    show Steps p.tables e below (T1.setTop (mkF m 10 #[.val (.ref a1), .val (.long q2), .second, .unset] [(.long (((q2 * (-7046029254386353131 : Int64)).toUInt64 >>> ((60 : Int32) &&& 0x3f).toInt64.toUInt64).toInt64))])) _
    refine XS.l2i X1.here hx rfl (hb hby d9_10) rfl ?_
    show Steps p.tables e below (T1.setTop (mkF m 11 #[.val (.ref a1), .val (.long q2), .second, .unset] [(.int ((((q2 * (-7046029254386353131 : Int64)).toUInt64 >>> ((60 : Int32) &&& 0x3f).toInt64.toUInt64).toInt64).toInt32))])) _
    refine XS.istoreN X1.here hx rfl (hb hby d9_11) rfl (l' := #[.val (.ref a1), .val (.long q2), .second, .val (.int ((((q2 * (-7046029254386353131 : Int64)).toUInt64 >>> ((60 : Int32) &&& 0x3f).toInt64.toUInt64).toInt64).toInt32))]) rfl ?_
    exact k)
  obtain ⟨i0, hd_i0⟩ : ∃ z : Int32, z = ((((q2 * (-7046029254386353131 : Int64)).toUInt64 >>> ((60 : Int32) &&& 0x3f).toInt64.toUInt64).toInt64).toInt32) := ⟨_, rfl⟩
  have k3 : ∀ t, Steps p.tables e below (T1.setTop (mkF m 12 #[.val (.ref a1), .val (.long q2), .second, .val (.int i0)] [])) t → Steps p.tables e below (s₁.setTop (entryFrame m #[(.ref a1), (.long q2)] 4)) t := by rw [hd_i0]; exact k2
  have hi0 : own_h q2 = i0 := hd_i0.symm
  have r0 : ¬ i0 < 0 ∧ i0 < (16 : Int32) := by rw [← hi0]; exact own_h_rg q2
  have hz0 : own_fr KS 3 i0 := by rw [← hi0]; exact hz
  obtain ⟨T4, X4, e4, st4⟩ := getF X1 hx hZ hown (host := "") (Or.inl (hw _ (List.mem_of_getElem? (i := 16) rfl))) Via.refl e1 F1 (g := (mkF m 13 #[.val (.ref a1), .val (.long q2), .second, .val (.int i0)] [(.ref a1)])) rfl rfl (hb hby d9_13)
  have k5 : ∀ t, Steps p.tables e below (T4.setTop (mkF m 22 #[.val (.ref a1), .val (.long q2), .second, .val (.int i0)] [(.int (lcmpW (KS.getD i0.toNatClampNeg 0) (-1 : Int64)))])) t → Steps p.tables e below (s₁.setTop (entryFrame m #[(.ref a1), (.long q2)] 4)) t := fun t k => k3 t (by
    show Steps p.tables e below (T1.setTop (mkF m 12 #[.val (.ref a1), .val (.long q2), .second, .val (.int i0)] [])) _
    refine XS.aloadN X1.here hx rfl (hb hby d9_12) rfl rfl ?_
    show Steps p.tables e below (T1.setTop (mkF m 13 #[.val (.ref a1), .val (.long q2), .second, .val (.int i0)] [(.ref a1)])) _
    refine st4 _ ?_
    show Steps p.tables e below (T4.setTop (mkF m 16 #[.val (.ref a1), .val (.long q2), .second, .val (.int i0)] [(.ref ak)])) _
    refine XS.iloadN X4.here hx rfl (hb hby d9_16) rfl ?_
    show Steps p.tables e below (T4.setTop (mkF m 17 #[.val (.ref a1), .val (.long q2), .second, .val (.int i0)] [(.int i0), (.ref ak)])) _
    refine own_ldJ X4 hx hZ e4 V1 r0 (g := (mkF m 17 #[.val (.ref a1), .val (.long q2), .second, .val (.int i0)] [(.int i0), (.ref ak)])) rfl rfl (hb hby d9_17) _ ?_
    show Steps p.tables e below (T4.setTop (mkF m 18 #[.val (.ref a1), .val (.long q2), .second, .val (.int i0)] [(.long (KS.getD i0.toNatClampNeg 0))])) _
    refine X4.ldc2Long hx hown (mvT hZ (hw _ (List.mem_of_getElem? (i := 18) rfl))) (g := (mkF m 18 #[.val (.ref a1), .val (.long q2), .second, .val (.int i0)] [(.long (KS.getD i0.toNatClampNeg 0))])) rfl (hb hby d9_18) _ ?_
    show Steps p.tables e below (T4.setTop (mkF m 21 #[.val (.ref a1), .val (.long q2), .second, .val (.int i0)] [(.long (-1 : Int64)), (.long (KS.getD i0.toNatClampNeg 0))])) _
    refine XS.lcmp X4.here hx rfl (hb hby d9_21) rfl ?_
    exact k)
  by_cases fa0 : (KS.getD i0.toNatClampNeg 0) = (-1 : Int64)
  ·
    have hv : own_pr KS q2 3 (own_h q2) = i0 := by rw [hi0, own_pr_s, if_pos fa0]
    have k7 : ∀ t, Steps p.tables e below (T4.setTop (mkF m 52 #[.val (.ref a1), .val (.long q2), .second, .val (.int i0)] [(.int i0)])) t → Steps p.tables e below (s₁.setTop (entryFrame m #[(.ref a1), (.long q2)] 4)) t := fun t k => k5 t (by
      show Steps p.tables e below (T4.setTop (mkF m 22 #[.val (.ref a1), .val (.long q2), .second, .val (.int i0)] [(.int (lcmpW (KS.getD i0.toNatClampNeg 0) (-1 : Int64)))])) _
      refine XS.ifYes X4.here hx rfl (pc0 := 22) (pc' := 51) rfl (hb hby d9_22) rfl ((if0 _ _).trans (teq ((lw_eq (KS.getD i0.toNatClampNeg 0) (-1 : Int64)).mpr fa0)).1) (by decide) (by decide) ?_
      show Steps p.tables e below (T4.setTop (mkF m 51 #[.val (.ref a1), .val (.long q2), .second, .val (.int i0)] [])) _
      refine XS.iloadN X4.here hx rfl (hb hby d9_51) rfl ?_
      exact k)
    obtain ⟨fs, hr, hrun, hended, hW, hsame⟩ := X4.leave (v := some (.int i0)) (fun h => by rw [Bd.returns] at h; cases h) (BodyLoose.notSynchronized Bd)
    refine ⟨_, _, k7 _ ?_, hrun, hended, _, _, rfl, ?_, ⟨_, rfl⟩, hW, hsame.mono (by decide) (by decide)⟩
    · show Steps p.tables e below (T4.setTop (mkF m 52 #[.val (.ref a1), .val (.long q2), .second, .val (.int i0)] [(.int i0)])) _
      exact retI X4 hx Bd.returns (hb hby d9_52) hr
    ·
      show Qprobe _ a1 q2 ak kk KS h0 n0 _ T4.heap _
      rw [e4]
      exact ⟨by rw [hv], N0, rfl⟩
  ·
    obtain ⟨T8, X8, e8, st8⟩ := getF X4 hx hZ hown (host := "") (Or.inl (hw _ (List.mem_of_getElem? (i := 16) rfl))) Via.refl e4 F1 (g := (mkF m 26 #[.val (.ref a1), .val (.long q2), .second, .val (.int i0)] [(.ref a1)])) rfl rfl (hb hby d9_26)
    have k9 : ∀ t, Steps p.tables e below (T8.setTop (mkF m 33 #[.val (.ref a1), .val (.long q2), .second, .val (.int i0)] [(.int (lcmpW (KS.getD i0.toNatClampNeg 0) q2))])) t → Steps p.tables e below (s₁.setTop (entryFrame m #[(.ref a1), (.long q2)] 4)) t := fun t k => k5 t (by
      show Steps p.tables e below (T4.setTop (mkF m 22 #[.val (.ref a1), .val (.long q2), .second, .val (.int i0)] [(.int (lcmpW (KS.getD i0.toNatClampNeg 0) (-1 : Int64)))])) _
      refine XS.ifNo X4.here hx rfl (hb hby d9_22) rfl ((if0 _ _).trans (feq (fun q => fa0 ((lw_eq (KS.getD i0.toNatClampNeg 0) (-1 : Int64)).mp q))).1) ?_
      show Steps p.tables e below (T4.setTop (mkF m 25 #[.val (.ref a1), .val (.long q2), .second, .val (.int i0)] [])) _
      refine XS.aloadN X4.here hx rfl (hb hby d9_25) rfl rfl ?_
      show Steps p.tables e below (T4.setTop (mkF m 26 #[.val (.ref a1), .val (.long q2), .second, .val (.int i0)] [(.ref a1)])) _
      refine st8 _ ?_
      show Steps p.tables e below (T8.setTop (mkF m 29 #[.val (.ref a1), .val (.long q2), .second, .val (.int i0)] [(.ref ak)])) _
      refine XS.iloadN X8.here hx rfl (hb hby d9_29) rfl ?_
      show Steps p.tables e below (T8.setTop (mkF m 30 #[.val (.ref a1), .val (.long q2), .second, .val (.int i0)] [(.int i0), (.ref ak)])) _
      refine own_ldJ X8 hx hZ e8 V1 r0 (g := (mkF m 30 #[.val (.ref a1), .val (.long q2), .second, .val (.int i0)] [(.int i0), (.ref ak)])) rfl rfl (hb hby d9_30) _ ?_
      show Steps p.tables e below (T8.setTop (mkF m 31 #[.val (.ref a1), .val (.long q2), .second, .val (.int i0)] [(.long (KS.getD i0.toNatClampNeg 0))])) _
      refine XS.lloadN X8.here hx rfl (hb hby d9_31) rfl ?_
      show Steps p.tables e below (T8.setTop (mkF m 32 #[.val (.ref a1), .val (.long q2), .second, .val (.int i0)] [(.long q2), (.long (KS.getD i0.toNatClampNeg 0))])) _
      refine XS.lcmp X8.here hx rfl (hb hby d9_32) rfl ?_
      exact k)
    by_cases fb0 : (KS.getD i0.toNatClampNeg 0) = q2
    ·
      have hv : own_pr KS q2 3 (own_h q2) = i0 := by rw [hi0, own_pr_s, if_neg fa0, if_pos fb0]
      have k11 : ∀ t, Steps p.tables e below (T8.setTop (mkF m 52 #[.val (.ref a1), .val (.long q2), .second, .val (.int i0)] [(.int i0)])) t → Steps p.tables e below (s₁.setTop (entryFrame m #[(.ref a1), (.long q2)] 4)) t := fun t k => k9 t (by
        show Steps p.tables e below (T8.setTop (mkF m 33 #[.val (.ref a1), .val (.long q2), .second, .val (.int i0)] [(.int (lcmpW (KS.getD i0.toNatClampNeg 0) q2))])) _
        refine XS.ifYes X8.here hx rfl (pc0 := 33) (pc' := 51) rfl (hb hby d9_33) rfl ((if0 _ _).trans (teq ((lw_eq (KS.getD i0.toNatClampNeg 0) q2).mpr fb0)).1) (by decide) (by decide) ?_
        show Steps p.tables e below (T8.setTop (mkF m 51 #[.val (.ref a1), .val (.long q2), .second, .val (.int i0)] [])) _
        refine XS.iloadN X8.here hx rfl (hb hby d9_51) rfl ?_
        exact k)
      obtain ⟨fs, hr, hrun, hended, hW, hsame⟩ := X8.leave (v := some (.int i0)) (fun h => by rw [Bd.returns] at h; cases h) (BodyLoose.notSynchronized Bd)
      refine ⟨_, _, k11 _ ?_, hrun, hended, _, _, rfl, ?_, ⟨_, rfl⟩, hW, hsame.mono (by decide) (by decide)⟩
      · show Steps p.tables e below (T8.setTop (mkF m 52 #[.val (.ref a1), .val (.long q2), .second, .val (.int i0)] [(.int i0)])) _
        exact retI X8 hx Bd.returns (hb hby d9_52) hr
      ·
        show Qprobe _ a1 q2 ak kk KS h0 n0 _ T8.heap _
        rw [e8]
        exact ⟨by rw [hv], N0, rfl⟩
    ·
      obtain ⟨T12, X12, e12, st12⟩ := getF X8 hx hZ hown (host := "") (Or.inl (hw _ (List.mem_of_getElem? (i := 16) rfl))) Via.refl e8 F1 (g := (mkF m 40 #[.val (.ref a1), .val (.long q2), .second, .val (.int i0)] [(.ref a1), (.int (i0 + (1 : Int32)))])) rfl rfl (hb hby d9_40)
      have k13 : ∀ t, Steps p.tables e below (T12.setTop (mkF m 48 #[.val (.ref a1), .val (.long q2), .second, .val (.int ((i0 + (1 : Int32)) &&& ((16 : Int32) - (1 : Int32))))] [])) t → Steps p.tables e below (s₁.setTop (entryFrame m #[(.ref a1), (.long q2)] 4)) t := fun t k => k9 t (by
        show Steps p.tables e below (T8.setTop (mkF m 33 #[.val (.ref a1), .val (.long q2), .second, .val (.int i0)] [(.int (lcmpW (KS.getD i0.toNatClampNeg 0) q2))])) _
        refine XS.ifNo X8.here hx rfl (hb hby d9_33) rfl ((if0 _ _).trans (feq (fun q => fb0 ((lw_eq (KS.getD i0.toNatClampNeg 0) q2).mp q))).1) ?_
        show Steps p.tables e below (T8.setTop (mkF m 36 #[.val (.ref a1), .val (.long q2), .second, .val (.int i0)] [])) _
        refine XS.iloadN X8.here hx rfl (hb hby d9_36) rfl ?_
        show Steps p.tables e below (T8.setTop (mkF m 37 #[.val (.ref a1), .val (.long q2), .second, .val (.int i0)] [(.int i0)])) _
        refine XS.iconst X8.here hx rfl (hb hby d9_37) ?_
        show Steps p.tables e below (T8.setTop (mkF m 38 #[.val (.ref a1), .val (.long q2), .second, .val (.int i0)] [(.int (1 : Int32)), (.int i0)])) _
        refine XS.iadd X8.here hx rfl (hb hby d9_38) rfl ?_
        show Steps p.tables e below (T8.setTop (mkF m 39 #[.val (.ref a1), .val (.long q2), .second, .val (.int i0)] [(.int (i0 + (1 : Int32)))])) _
        refine XS.aloadN X8.here hx rfl (hb hby d9_39) rfl rfl ?_
        show Steps p.tables e below (T8.setTop (mkF m 40 #[.val (.ref a1), .val (.long q2), .second, .val (.int i0)] [(.ref a1), (.int (i0 + (1 : Int32)))])) _
        refine st12 _ ?_
        show Steps p.tables e below (T12.setTop (mkF m 43 #[.val (.ref a1), .val (.long q2), .second, .val (.int i0)] [(.ref ak), (.int (i0 + (1 : Int32)))])) _
        refine own_len X12 hx hZ e12 V1 (g := (mkF m 43 #[.val (.ref a1), .val (.long q2), .second, .val (.int i0)] [(.ref ak), (.int (i0 + (1 : Int32)))])) rfl rfl (hb hby d9_43) _ ?_
        show Steps p.tables e below (T12.setTop (mkF m 44 #[.val (.ref a1), .val (.long q2), .second, .val (.int i0)] [(.int (16 : Int32)), (.int (i0 + (1 : Int32)))])) _
        refine XS.iconst X12.here hx rfl (hb hby d9_44) ?_
        show Steps p.tables e below (T12.setTop (mkF m 45 #[.val (.ref a1), .val (.long q2), .second, .val (.int i0)] [(.int (1 : Int32)), (.int (16 : Int32)), (.int (i0 + (1 : Int32)))])) _
        refine XS.isub X12.here hx rfl (hb hby d9_45) rfl ?_
        show Steps p.tables e below (T12.setTop (mkF m 46 #[.val (.ref a1), .val (.long q2), .second, .val (.int i0)] [(.int ((16 : Int32) - (1 : Int32))), (.int (i0 + (1 : Int32)))])) _
        refine XS.iand X12.here hx rfl (hb hby d9_46) rfl ?_
        show Steps p.tables e below (T12.setTop (mkF m 47 #[.val (.ref a1), .val (.long q2), .second, .val (.int i0)] [(.int ((i0 + (1 : Int32)) &&& ((16 : Int32) - (1 : Int32))))])) _
        refine XS.istoreN X12.here hx rfl (hb hby d9_47) rfl (l' := #[.val (.ref a1), .val (.long q2), .second, .val (.int ((i0 + (1 : Int32)) &&& ((16 : Int32) - (1 : Int32))))]) rfl ?_
        exact k)
      obtain ⟨i1, hd_i1⟩ : ∃ z : Int32, z = ((i0 + (1 : Int32)) &&& ((16 : Int32) - (1 : Int32))) := ⟨_, rfl⟩
      have k14 : ∀ t, Steps p.tables e below (T12.setTop (mkF m 48 #[.val (.ref a1), .val (.long q2), .second, .val (.int i1)] [])) t → Steps p.tables e below (s₁.setTop (entryFrame m #[(.ref a1), (.long q2)] 4)) t := by rw [hd_i1]; exact k13
      have hi1 : i1 = own_nx i0 := hd_i1
      have r1 : ¬ i1 < 0 ∧ i1 < (16 : Int32) := by rw [hi1]; exact own_nx_rg i0
      have hz1 : own_fr KS 2 i1 := by rw [hi1]; exact own_fr_s hz0 fa0
      obtain ⟨T15, X15, e15, st15⟩ := getF X12 hx hZ hown (host := "") (Or.inl (hw _ (List.mem_of_getElem? (i := 16) rfl))) Via.refl e12 F1 (g := (mkF m 13 #[.val (.ref a1), .val (.long q2), .second, .val (.int i1)] [(.ref a1)])) rfl rfl (hb hby d9_13)
      have k16 : ∀ t, Steps p.tables e below (T15.setTop (mkF m 22 #[.val (.ref a1), .val (.long q2), .second, .val (.int i1)] [(.int (lcmpW (KS.getD i1.toNatClampNeg 0) (-1 : Int64)))])) t → Steps p.tables e below (s₁.setTop (entryFrame m #[(.ref a1), (.long q2)] 4)) t := fun t k => k14 t (by
        show Steps p.tables e below (T12.setTop (mkF m 48 #[.val (.ref a1), .val (.long q2), .second, .val (.int i1)] [])) _
        refine XS.goto X12.here hx rfl (pc0 := 48) (pc' := 12) rfl (hb hby d9_48) (by decide) (by decide) ?_
        show Steps p.tables e below (T12.setTop (mkF m 12 #[.val (.ref a1), .val (.long q2), .second, .val (.int i1)] [])) _
        refine XS.aloadN X12.here hx rfl (hb hby d9_12) rfl rfl ?_
        show Steps p.tables e below (T12.setTop (mkF m 13 #[.val (.ref a1), .val (.long q2), .second, .val (.int i1)] [(.ref a1)])) _
        refine st15 _ ?_
        show Steps p.tables e below (T15.setTop (mkF m 16 #[.val (.ref a1), .val (.long q2), .second, .val (.int i1)] [(.ref ak)])) _
        refine XS.iloadN X15.here hx rfl (hb hby d9_16) rfl ?_
        show Steps p.tables e below (T15.setTop (mkF m 17 #[.val (.ref a1), .val (.long q2), .second, .val (.int i1)] [(.int i1), (.ref ak)])) _
        refine own_ldJ X15 hx hZ e15 V1 r1 (g := (mkF m 17 #[.val (.ref a1), .val (.long q2), .second, .val (.int i1)] [(.int i1), (.ref ak)])) rfl rfl (hb hby d9_17) _ ?_
        show Steps p.tables e below (T15.setTop (mkF m 18 #[.val (.ref a1), .val (.long q2), .second, .val (.int i1)] [(.long (KS.getD i1.toNatClampNeg 0))])) _
        refine X15.ldc2Long hx hown (mvT hZ (hw _ (List.mem_of_getElem? (i := 18) rfl))) (g := (mkF m 18 #[.val (.ref a1), .val (.long q2), .second, .val (.int i1)] [(.long (KS.getD i1.toNatClampNeg 0))])) rfl (hb hby d9_18) _ ?_
        show Steps p.tables e below (T15.setTop (mkF m 21 #[.val (.ref a1), .val (.long q2), .second, .val (.int i1)] [(.long (-1 : Int64)), (.long (KS.getD i1.toNatClampNeg 0))])) _
        refine XS.lcmp X15.here hx rfl (hb hby d9_21) rfl ?_
        exact k)
      by_cases fa1 : (KS.getD i1.toNatClampNeg 0) = (-1 : Int64)
      ·
        have hv : own_pr KS q2 3 (own_h q2) = i1 := by rw [hi0, own_pr_s, if_neg fa0, if_neg fb0, ← hi1, own_pr_s, if_pos fa1]
        have k18 : ∀ t, Steps p.tables e below (T15.setTop (mkF m 52 #[.val (.ref a1), .val (.long q2), .second, .val (.int i1)] [(.int i1)])) t → Steps p.tables e below (s₁.setTop (entryFrame m #[(.ref a1), (.long q2)] 4)) t := fun t k => k16 t (by
          show Steps p.tables e below (T15.setTop (mkF m 22 #[.val (.ref a1), .val (.long q2), .second, .val (.int i1)] [(.int (lcmpW (KS.getD i1.toNatClampNeg 0) (-1 : Int64)))])) _
          refine XS.ifYes X15.here hx rfl (pc0 := 22) (pc' := 51) rfl (hb hby d9_22) rfl ((if0 _ _).trans (teq ((lw_eq (KS.getD i1.toNatClampNeg 0) (-1 : Int64)).mpr fa1)).1) (by decide) (by decide) ?_
          show Steps p.tables e below (T15.setTop (mkF m 51 #[.val (.ref a1), .val (.long q2), .second, .val (.int i1)] [])) _
          refine XS.iloadN X15.here hx rfl (hb hby d9_51) rfl ?_
          exact k)
        obtain ⟨fs, hr, hrun, hended, hW, hsame⟩ := X15.leave (v := some (.int i1)) (fun h => by rw [Bd.returns] at h; cases h) (BodyLoose.notSynchronized Bd)
        refine ⟨_, _, k18 _ ?_, hrun, hended, _, _, rfl, ?_, ⟨_, rfl⟩, hW, hsame.mono (by decide) (by decide)⟩
        · show Steps p.tables e below (T15.setTop (mkF m 52 #[.val (.ref a1), .val (.long q2), .second, .val (.int i1)] [(.int i1)])) _
          exact retI X15 hx Bd.returns (hb hby d9_52) hr
        ·
          show Qprobe _ a1 q2 ak kk KS h0 n0 _ T15.heap _
          rw [e15]
          exact ⟨by rw [hv], N0, rfl⟩
      ·
        obtain ⟨T19, X19, e19, st19⟩ := getF X15 hx hZ hown (host := "") (Or.inl (hw _ (List.mem_of_getElem? (i := 16) rfl))) Via.refl e15 F1 (g := (mkF m 26 #[.val (.ref a1), .val (.long q2), .second, .val (.int i1)] [(.ref a1)])) rfl rfl (hb hby d9_26)
        have k20 : ∀ t, Steps p.tables e below (T19.setTop (mkF m 33 #[.val (.ref a1), .val (.long q2), .second, .val (.int i1)] [(.int (lcmpW (KS.getD i1.toNatClampNeg 0) q2))])) t → Steps p.tables e below (s₁.setTop (entryFrame m #[(.ref a1), (.long q2)] 4)) t := fun t k => k16 t (by
          show Steps p.tables e below (T15.setTop (mkF m 22 #[.val (.ref a1), .val (.long q2), .second, .val (.int i1)] [(.int (lcmpW (KS.getD i1.toNatClampNeg 0) (-1 : Int64)))])) _
          refine XS.ifNo X15.here hx rfl (hb hby d9_22) rfl ((if0 _ _).trans (feq (fun q => fa1 ((lw_eq (KS.getD i1.toNatClampNeg 0) (-1 : Int64)).mp q))).1) ?_
          show Steps p.tables e below (T15.setTop (mkF m 25 #[.val (.ref a1), .val (.long q2), .second, .val (.int i1)] [])) _
          refine XS.aloadN X15.here hx rfl (hb hby d9_25) rfl rfl ?_
          show Steps p.tables e below (T15.setTop (mkF m 26 #[.val (.ref a1), .val (.long q2), .second, .val (.int i1)] [(.ref a1)])) _
          refine st19 _ ?_
          show Steps p.tables e below (T19.setTop (mkF m 29 #[.val (.ref a1), .val (.long q2), .second, .val (.int i1)] [(.ref ak)])) _
          refine XS.iloadN X19.here hx rfl (hb hby d9_29) rfl ?_
          show Steps p.tables e below (T19.setTop (mkF m 30 #[.val (.ref a1), .val (.long q2), .second, .val (.int i1)] [(.int i1), (.ref ak)])) _
          refine own_ldJ X19 hx hZ e19 V1 r1 (g := (mkF m 30 #[.val (.ref a1), .val (.long q2), .second, .val (.int i1)] [(.int i1), (.ref ak)])) rfl rfl (hb hby d9_30) _ ?_
          show Steps p.tables e below (T19.setTop (mkF m 31 #[.val (.ref a1), .val (.long q2), .second, .val (.int i1)] [(.long (KS.getD i1.toNatClampNeg 0))])) _
          refine XS.lloadN X19.here hx rfl (hb hby d9_31) rfl ?_
          show Steps p.tables e below (T19.setTop (mkF m 32 #[.val (.ref a1), .val (.long q2), .second, .val (.int i1)] [(.long q2), (.long (KS.getD i1.toNatClampNeg 0))])) _
          refine XS.lcmp X19.here hx rfl (hb hby d9_32) rfl ?_
          exact k)
        by_cases fb1 : (KS.getD i1.toNatClampNeg 0) = q2
        ·
          have hv : own_pr KS q2 3 (own_h q2) = i1 := by rw [hi0, own_pr_s, if_neg fa0, if_neg fb0, ← hi1, own_pr_s, if_neg fa1, if_pos fb1]
          have k22 : ∀ t, Steps p.tables e below (T19.setTop (mkF m 52 #[.val (.ref a1), .val (.long q2), .second, .val (.int i1)] [(.int i1)])) t → Steps p.tables e below (s₁.setTop (entryFrame m #[(.ref a1), (.long q2)] 4)) t := fun t k => k20 t (by
            show Steps p.tables e below (T19.setTop (mkF m 33 #[.val (.ref a1), .val (.long q2), .second, .val (.int i1)] [(.int (lcmpW (KS.getD i1.toNatClampNeg 0) q2))])) _
            refine XS.ifYes X19.here hx rfl (pc0 := 33) (pc' := 51) rfl (hb hby d9_33) rfl ((if0 _ _).trans (teq ((lw_eq (KS.getD i1.toNatClampNeg 0) q2).mpr fb1)).1) (by decide) (by decide) ?_
            show Steps p.tables e below (T19.setTop (mkF m 51 #[.val (.ref a1), .val (.long q2), .second, .val (.int i1)] [])) _
            refine XS.iloadN X19.here hx rfl (hb hby d9_51) rfl ?_
            exact k)
          obtain ⟨fs, hr, hrun, hended, hW, hsame⟩ := X19.leave (v := some (.int i1)) (fun h => by rw [Bd.returns] at h; cases h) (BodyLoose.notSynchronized Bd)
          refine ⟨_, _, k22 _ ?_, hrun, hended, _, _, rfl, ?_, ⟨_, rfl⟩, hW, hsame.mono (by decide) (by decide)⟩
          · show Steps p.tables e below (T19.setTop (mkF m 52 #[.val (.ref a1), .val (.long q2), .second, .val (.int i1)] [(.int i1)])) _
            exact retI X19 hx Bd.returns (hb hby d9_52) hr
          ·
            show Qprobe _ a1 q2 ak kk KS h0 n0 _ T19.heap _
            rw [e19]
            exact ⟨by rw [hv], N0, rfl⟩
        ·
          obtain ⟨T23, X23, e23, st23⟩ := getF X19 hx hZ hown (host := "") (Or.inl (hw _ (List.mem_of_getElem? (i := 16) rfl))) Via.refl e19 F1 (g := (mkF m 40 #[.val (.ref a1), .val (.long q2), .second, .val (.int i1)] [(.ref a1), (.int (i1 + (1 : Int32)))])) rfl rfl (hb hby d9_40)
          have k24 : ∀ t, Steps p.tables e below (T23.setTop (mkF m 48 #[.val (.ref a1), .val (.long q2), .second, .val (.int ((i1 + (1 : Int32)) &&& ((16 : Int32) - (1 : Int32))))] [])) t → Steps p.tables e below (s₁.setTop (entryFrame m #[(.ref a1), (.long q2)] 4)) t := fun t k => k20 t (by
            show Steps p.tables e below (T19.setTop (mkF m 33 #[.val (.ref a1), .val (.long q2), .second, .val (.int i1)] [(.int (lcmpW (KS.getD i1.toNatClampNeg 0) q2))])) _
            refine XS.ifNo X19.here hx rfl (hb hby d9_33) rfl ((if0 _ _).trans (feq (fun q => fb1 ((lw_eq (KS.getD i1.toNatClampNeg 0) q2).mp q))).1) ?_
            show Steps p.tables e below (T19.setTop (mkF m 36 #[.val (.ref a1), .val (.long q2), .second, .val (.int i1)] [])) _
            refine XS.iloadN X19.here hx rfl (hb hby d9_36) rfl ?_
            show Steps p.tables e below (T19.setTop (mkF m 37 #[.val (.ref a1), .val (.long q2), .second, .val (.int i1)] [(.int i1)])) _
            refine XS.iconst X19.here hx rfl (hb hby d9_37) ?_
            show Steps p.tables e below (T19.setTop (mkF m 38 #[.val (.ref a1), .val (.long q2), .second, .val (.int i1)] [(.int (1 : Int32)), (.int i1)])) _
            refine XS.iadd X19.here hx rfl (hb hby d9_38) rfl ?_
            show Steps p.tables e below (T19.setTop (mkF m 39 #[.val (.ref a1), .val (.long q2), .second, .val (.int i1)] [(.int (i1 + (1 : Int32)))])) _
            refine XS.aloadN X19.here hx rfl (hb hby d9_39) rfl rfl ?_
            show Steps p.tables e below (T19.setTop (mkF m 40 #[.val (.ref a1), .val (.long q2), .second, .val (.int i1)] [(.ref a1), (.int (i1 + (1 : Int32)))])) _
            refine st23 _ ?_
            show Steps p.tables e below (T23.setTop (mkF m 43 #[.val (.ref a1), .val (.long q2), .second, .val (.int i1)] [(.ref ak), (.int (i1 + (1 : Int32)))])) _
            refine own_len X23 hx hZ e23 V1 (g := (mkF m 43 #[.val (.ref a1), .val (.long q2), .second, .val (.int i1)] [(.ref ak), (.int (i1 + (1 : Int32)))])) rfl rfl (hb hby d9_43) _ ?_
            show Steps p.tables e below (T23.setTop (mkF m 44 #[.val (.ref a1), .val (.long q2), .second, .val (.int i1)] [(.int (16 : Int32)), (.int (i1 + (1 : Int32)))])) _
            refine XS.iconst X23.here hx rfl (hb hby d9_44) ?_
            show Steps p.tables e below (T23.setTop (mkF m 45 #[.val (.ref a1), .val (.long q2), .second, .val (.int i1)] [(.int (1 : Int32)), (.int (16 : Int32)), (.int (i1 + (1 : Int32)))])) _
            refine XS.isub X23.here hx rfl (hb hby d9_45) rfl ?_
            show Steps p.tables e below (T23.setTop (mkF m 46 #[.val (.ref a1), .val (.long q2), .second, .val (.int i1)] [(.int ((16 : Int32) - (1 : Int32))), (.int (i1 + (1 : Int32)))])) _
            refine XS.iand X23.here hx rfl (hb hby d9_46) rfl ?_
            show Steps p.tables e below (T23.setTop (mkF m 47 #[.val (.ref a1), .val (.long q2), .second, .val (.int i1)] [(.int ((i1 + (1 : Int32)) &&& ((16 : Int32) - (1 : Int32))))])) _
            refine XS.istoreN X23.here hx rfl (hb hby d9_47) rfl (l' := #[.val (.ref a1), .val (.long q2), .second, .val (.int ((i1 + (1 : Int32)) &&& ((16 : Int32) - (1 : Int32))))]) rfl ?_
            exact k)
          obtain ⟨i2, hd_i2⟩ : ∃ z : Int32, z = ((i1 + (1 : Int32)) &&& ((16 : Int32) - (1 : Int32))) := ⟨_, rfl⟩
          have k25 : ∀ t, Steps p.tables e below (T23.setTop (mkF m 48 #[.val (.ref a1), .val (.long q2), .second, .val (.int i2)] [])) t → Steps p.tables e below (s₁.setTop (entryFrame m #[(.ref a1), (.long q2)] 4)) t := by rw [hd_i2]; exact k24
          have hi2 : i2 = own_nx i1 := hd_i2
          have r2 : ¬ i2 < 0 ∧ i2 < (16 : Int32) := by rw [hi2]; exact own_nx_rg i1
          have hz2 : own_fr KS 1 i2 := by rw [hi2]; exact own_fr_s hz1 fa1
          obtain ⟨T26, X26, e26, st26⟩ := getF X23 hx hZ hown (host := "") (Or.inl (hw _ (List.mem_of_getElem? (i := 16) rfl))) Via.refl e23 F1 (g := (mkF m 13 #[.val (.ref a1), .val (.long q2), .second, .val (.int i2)] [(.ref a1)])) rfl rfl (hb hby d9_13)
          have k27 : ∀ t, Steps p.tables e below (T26.setTop (mkF m 22 #[.val (.ref a1), .val (.long q2), .second, .val (.int i2)] [(.int (lcmpW (KS.getD i2.toNatClampNeg 0) (-1 : Int64)))])) t → Steps p.tables e below (s₁.setTop (entryFrame m #[(.ref a1), (.long q2)] 4)) t := fun t k => k25 t (by
            show Steps p.tables e below (T23.setTop (mkF m 48 #[.val (.ref a1), .val (.long q2), .second, .val (.int i2)] [])) _
            refine XS.goto X23.here hx rfl (pc0 := 48) (pc' := 12) rfl (hb hby d9_48) (by decide) (by decide) ?_
            show Steps p.tables e below (T23.setTop (mkF m 12 #[.val (.ref a1), .val (.long q2), .second, .val (.int i2)] [])) _
            refine XS.aloadN X23.here hx rfl (hb hby d9_12) rfl rfl ?_
            show Steps p.tables e below (T23.setTop (mkF m 13 #[.val (.ref a1), .val (.long q2), .second, .val (.int i2)] [(.ref a1)])) _
            refine st26 _ ?_
            show Steps p.tables e below (T26.setTop (mkF m 16 #[.val (.ref a1), .val (.long q2), .second, .val (.int i2)] [(.ref ak)])) _
            refine XS.iloadN X26.here hx rfl (hb hby d9_16) rfl ?_
            show Steps p.tables e below (T26.setTop (mkF m 17 #[.val (.ref a1), .val (.long q2), .second, .val (.int i2)] [(.int i2), (.ref ak)])) _
            refine own_ldJ X26 hx hZ e26 V1 r2 (g := (mkF m 17 #[.val (.ref a1), .val (.long q2), .second, .val (.int i2)] [(.int i2), (.ref ak)])) rfl rfl (hb hby d9_17) _ ?_
            show Steps p.tables e below (T26.setTop (mkF m 18 #[.val (.ref a1), .val (.long q2), .second, .val (.int i2)] [(.long (KS.getD i2.toNatClampNeg 0))])) _
            refine X26.ldc2Long hx hown (mvT hZ (hw _ (List.mem_of_getElem? (i := 18) rfl))) (g := (mkF m 18 #[.val (.ref a1), .val (.long q2), .second, .val (.int i2)] [(.long (KS.getD i2.toNatClampNeg 0))])) rfl (hb hby d9_18) _ ?_
            show Steps p.tables e below (T26.setTop (mkF m 21 #[.val (.ref a1), .val (.long q2), .second, .val (.int i2)] [(.long (-1 : Int64)), (.long (KS.getD i2.toNatClampNeg 0))])) _
            refine XS.lcmp X26.here hx rfl (hb hby d9_21) rfl ?_
            exact k)
          by_cases fa2 : (KS.getD i2.toNatClampNeg 0) = (-1 : Int64)
          ·
            have hv : own_pr KS q2 3 (own_h q2) = i2 := by rw [hi0, own_pr_s, if_neg fa0, if_neg fb0, ← hi1, own_pr_s, if_neg fa1, if_neg fb1, ← hi2, own_pr_s, if_pos fa2]
            have k29 : ∀ t, Steps p.tables e below (T26.setTop (mkF m 52 #[.val (.ref a1), .val (.long q2), .second, .val (.int i2)] [(.int i2)])) t → Steps p.tables e below (s₁.setTop (entryFrame m #[(.ref a1), (.long q2)] 4)) t := fun t k => k27 t (by
              show Steps p.tables e below (T26.setTop (mkF m 22 #[.val (.ref a1), .val (.long q2), .second, .val (.int i2)] [(.int (lcmpW (KS.getD i2.toNatClampNeg 0) (-1 : Int64)))])) _
              refine XS.ifYes X26.here hx rfl (pc0 := 22) (pc' := 51) rfl (hb hby d9_22) rfl ((if0 _ _).trans (teq ((lw_eq (KS.getD i2.toNatClampNeg 0) (-1 : Int64)).mpr fa2)).1) (by decide) (by decide) ?_
              show Steps p.tables e below (T26.setTop (mkF m 51 #[.val (.ref a1), .val (.long q2), .second, .val (.int i2)] [])) _
              refine XS.iloadN X26.here hx rfl (hb hby d9_51) rfl ?_
              exact k)
            obtain ⟨fs, hr, hrun, hended, hW, hsame⟩ := X26.leave (v := some (.int i2)) (fun h => by rw [Bd.returns] at h; cases h) (BodyLoose.notSynchronized Bd)
            refine ⟨_, _, k29 _ ?_, hrun, hended, _, _, rfl, ?_, ⟨_, rfl⟩, hW, hsame.mono (by decide) (by decide)⟩
            · show Steps p.tables e below (T26.setTop (mkF m 52 #[.val (.ref a1), .val (.long q2), .second, .val (.int i2)] [(.int i2)])) _
              exact retI X26 hx Bd.returns (hb hby d9_52) hr
            ·
              show Qprobe _ a1 q2 ak kk KS h0 n0 _ T26.heap _
              rw [e26]
              exact ⟨by rw [hv], N0, rfl⟩
          ·
            obtain ⟨T30, X30, e30, st30⟩ := getF X26 hx hZ hown (host := "") (Or.inl (hw _ (List.mem_of_getElem? (i := 16) rfl))) Via.refl e26 F1 (g := (mkF m 26 #[.val (.ref a1), .val (.long q2), .second, .val (.int i2)] [(.ref a1)])) rfl rfl (hb hby d9_26)
            have k31 : ∀ t, Steps p.tables e below (T30.setTop (mkF m 33 #[.val (.ref a1), .val (.long q2), .second, .val (.int i2)] [(.int (lcmpW (KS.getD i2.toNatClampNeg 0) q2))])) t → Steps p.tables e below (s₁.setTop (entryFrame m #[(.ref a1), (.long q2)] 4)) t := fun t k => k27 t (by
              show Steps p.tables e below (T26.setTop (mkF m 22 #[.val (.ref a1), .val (.long q2), .second, .val (.int i2)] [(.int (lcmpW (KS.getD i2.toNatClampNeg 0) (-1 : Int64)))])) _
              refine XS.ifNo X26.here hx rfl (hb hby d9_22) rfl ((if0 _ _).trans (feq (fun q => fa2 ((lw_eq (KS.getD i2.toNatClampNeg 0) (-1 : Int64)).mp q))).1) ?_
              show Steps p.tables e below (T26.setTop (mkF m 25 #[.val (.ref a1), .val (.long q2), .second, .val (.int i2)] [])) _
              refine XS.aloadN X26.here hx rfl (hb hby d9_25) rfl rfl ?_
              show Steps p.tables e below (T26.setTop (mkF m 26 #[.val (.ref a1), .val (.long q2), .second, .val (.int i2)] [(.ref a1)])) _
              refine st30 _ ?_
              show Steps p.tables e below (T30.setTop (mkF m 29 #[.val (.ref a1), .val (.long q2), .second, .val (.int i2)] [(.ref ak)])) _
              refine XS.iloadN X30.here hx rfl (hb hby d9_29) rfl ?_
              show Steps p.tables e below (T30.setTop (mkF m 30 #[.val (.ref a1), .val (.long q2), .second, .val (.int i2)] [(.int i2), (.ref ak)])) _
              refine own_ldJ X30 hx hZ e30 V1 r2 (g := (mkF m 30 #[.val (.ref a1), .val (.long q2), .second, .val (.int i2)] [(.int i2), (.ref ak)])) rfl rfl (hb hby d9_30) _ ?_
              show Steps p.tables e below (T30.setTop (mkF m 31 #[.val (.ref a1), .val (.long q2), .second, .val (.int i2)] [(.long (KS.getD i2.toNatClampNeg 0))])) _
              refine XS.lloadN X30.here hx rfl (hb hby d9_31) rfl ?_
              show Steps p.tables e below (T30.setTop (mkF m 32 #[.val (.ref a1), .val (.long q2), .second, .val (.int i2)] [(.long q2), (.long (KS.getD i2.toNatClampNeg 0))])) _
              refine XS.lcmp X30.here hx rfl (hb hby d9_32) rfl ?_
              exact k)
            by_cases fb2 : (KS.getD i2.toNatClampNeg 0) = q2
            ·
              have hv : own_pr KS q2 3 (own_h q2) = i2 := by rw [hi0, own_pr_s, if_neg fa0, if_neg fb0, ← hi1, own_pr_s, if_neg fa1, if_neg fb1, ← hi2, own_pr_s, if_neg fa2, if_pos fb2]
              have k33 : ∀ t, Steps p.tables e below (T30.setTop (mkF m 52 #[.val (.ref a1), .val (.long q2), .second, .val (.int i2)] [(.int i2)])) t → Steps p.tables e below (s₁.setTop (entryFrame m #[(.ref a1), (.long q2)] 4)) t := fun t k => k31 t (by
                show Steps p.tables e below (T30.setTop (mkF m 33 #[.val (.ref a1), .val (.long q2), .second, .val (.int i2)] [(.int (lcmpW (KS.getD i2.toNatClampNeg 0) q2))])) _
                refine XS.ifYes X30.here hx rfl (pc0 := 33) (pc' := 51) rfl (hb hby d9_33) rfl ((if0 _ _).trans (teq ((lw_eq (KS.getD i2.toNatClampNeg 0) q2).mpr fb2)).1) (by decide) (by decide) ?_
                show Steps p.tables e below (T30.setTop (mkF m 51 #[.val (.ref a1), .val (.long q2), .second, .val (.int i2)] [])) _
                refine XS.iloadN X30.here hx rfl (hb hby d9_51) rfl ?_
                exact k)
              obtain ⟨fs, hr, hrun, hended, hW, hsame⟩ := X30.leave (v := some (.int i2)) (fun h => by rw [Bd.returns] at h; cases h) (BodyLoose.notSynchronized Bd)
              refine ⟨_, _, k33 _ ?_, hrun, hended, _, _, rfl, ?_, ⟨_, rfl⟩, hW, hsame.mono (by decide) (by decide)⟩
              · show Steps p.tables e below (T30.setTop (mkF m 52 #[.val (.ref a1), .val (.long q2), .second, .val (.int i2)] [(.int i2)])) _
                exact retI X30 hx Bd.returns (hb hby d9_52) hr
              ·
                show Qprobe _ a1 q2 ak kk KS h0 n0 _ T30.heap _
                rw [e30]
                exact ⟨by rw [hv], N0, rfl⟩
            ·
              obtain ⟨T34, X34, e34, st34⟩ := getF X30 hx hZ hown (host := "") (Or.inl (hw _ (List.mem_of_getElem? (i := 16) rfl))) Via.refl e30 F1 (g := (mkF m 40 #[.val (.ref a1), .val (.long q2), .second, .val (.int i2)] [(.ref a1), (.int (i2 + (1 : Int32)))])) rfl rfl (hb hby d9_40)
              have k35 : ∀ t, Steps p.tables e below (T34.setTop (mkF m 48 #[.val (.ref a1), .val (.long q2), .second, .val (.int ((i2 + (1 : Int32)) &&& ((16 : Int32) - (1 : Int32))))] [])) t → Steps p.tables e below (s₁.setTop (entryFrame m #[(.ref a1), (.long q2)] 4)) t := fun t k => k31 t (by
                show Steps p.tables e below (T30.setTop (mkF m 33 #[.val (.ref a1), .val (.long q2), .second, .val (.int i2)] [(.int (lcmpW (KS.getD i2.toNatClampNeg 0) q2))])) _
                refine XS.ifNo X30.here hx rfl (hb hby d9_33) rfl ((if0 _ _).trans (feq (fun q => fb2 ((lw_eq (KS.getD i2.toNatClampNeg 0) q2).mp q))).1) ?_
                show Steps p.tables e below (T30.setTop (mkF m 36 #[.val (.ref a1), .val (.long q2), .second, .val (.int i2)] [])) _
                refine XS.iloadN X30.here hx rfl (hb hby d9_36) rfl ?_
                show Steps p.tables e below (T30.setTop (mkF m 37 #[.val (.ref a1), .val (.long q2), .second, .val (.int i2)] [(.int i2)])) _
                refine XS.iconst X30.here hx rfl (hb hby d9_37) ?_
                show Steps p.tables e below (T30.setTop (mkF m 38 #[.val (.ref a1), .val (.long q2), .second, .val (.int i2)] [(.int (1 : Int32)), (.int i2)])) _
                refine XS.iadd X30.here hx rfl (hb hby d9_38) rfl ?_
                show Steps p.tables e below (T30.setTop (mkF m 39 #[.val (.ref a1), .val (.long q2), .second, .val (.int i2)] [(.int (i2 + (1 : Int32)))])) _
                refine XS.aloadN X30.here hx rfl (hb hby d9_39) rfl rfl ?_
                show Steps p.tables e below (T30.setTop (mkF m 40 #[.val (.ref a1), .val (.long q2), .second, .val (.int i2)] [(.ref a1), (.int (i2 + (1 : Int32)))])) _
                refine st34 _ ?_
                show Steps p.tables e below (T34.setTop (mkF m 43 #[.val (.ref a1), .val (.long q2), .second, .val (.int i2)] [(.ref ak), (.int (i2 + (1 : Int32)))])) _
                refine own_len X34 hx hZ e34 V1 (g := (mkF m 43 #[.val (.ref a1), .val (.long q2), .second, .val (.int i2)] [(.ref ak), (.int (i2 + (1 : Int32)))])) rfl rfl (hb hby d9_43) _ ?_
                show Steps p.tables e below (T34.setTop (mkF m 44 #[.val (.ref a1), .val (.long q2), .second, .val (.int i2)] [(.int (16 : Int32)), (.int (i2 + (1 : Int32)))])) _
                refine XS.iconst X34.here hx rfl (hb hby d9_44) ?_
                show Steps p.tables e below (T34.setTop (mkF m 45 #[.val (.ref a1), .val (.long q2), .second, .val (.int i2)] [(.int (1 : Int32)), (.int (16 : Int32)), (.int (i2 + (1 : Int32)))])) _
                refine XS.isub X34.here hx rfl (hb hby d9_45) rfl ?_
                show Steps p.tables e below (T34.setTop (mkF m 46 #[.val (.ref a1), .val (.long q2), .second, .val (.int i2)] [(.int ((16 : Int32) - (1 : Int32))), (.int (i2 + (1 : Int32)))])) _
                refine XS.iand X34.here hx rfl (hb hby d9_46) rfl ?_
                show Steps p.tables e below (T34.setTop (mkF m 47 #[.val (.ref a1), .val (.long q2), .second, .val (.int i2)] [(.int ((i2 + (1 : Int32)) &&& ((16 : Int32) - (1 : Int32))))])) _
                refine XS.istoreN X34.here hx rfl (hb hby d9_47) rfl (l' := #[.val (.ref a1), .val (.long q2), .second, .val (.int ((i2 + (1 : Int32)) &&& ((16 : Int32) - (1 : Int32))))]) rfl ?_
                exact k)
              obtain ⟨i3, hd_i3⟩ : ∃ z : Int32, z = ((i2 + (1 : Int32)) &&& ((16 : Int32) - (1 : Int32))) := ⟨_, rfl⟩
              have k36 : ∀ t, Steps p.tables e below (T34.setTop (mkF m 48 #[.val (.ref a1), .val (.long q2), .second, .val (.int i3)] [])) t → Steps p.tables e below (s₁.setTop (entryFrame m #[(.ref a1), (.long q2)] 4)) t := by rw [hd_i3]; exact k35
              have hi3 : i3 = own_nx i2 := hd_i3
              have r3 : ¬ i3 < 0 ∧ i3 < (16 : Int32) := by rw [hi3]; exact own_nx_rg i2
              have hz3 : own_fr KS 0 i3 := by rw [hi3]; exact own_fr_s hz2 fa2
              obtain ⟨T37, X37, e37, st37⟩ := getF X34 hx hZ hown (host := "") (Or.inl (hw _ (List.mem_of_getElem? (i := 16) rfl))) Via.refl e34 F1 (g := (mkF m 13 #[.val (.ref a1), .val (.long q2), .second, .val (.int i3)] [(.ref a1)])) rfl rfl (hb hby d9_13)
              have hv : own_pr KS q2 3 (own_h q2) = i3 := by rw [hi0, own_pr_s, if_neg fa0, if_neg fb0, ← hi1, own_pr_s, if_neg fa1, if_neg fb1, ← hi2, own_pr_s, if_neg fa2, if_neg fb2, ← hi3, own_pr_0]
              have k39 : ∀ t, Steps p.tables e below (T37.setTop (mkF m 52 #[.val (.ref a1), .val (.long q2), .second, .val (.int i3)] [(.int i3)])) t → Steps p.tables e below (s₁.setTop (entryFrame m #[(.ref a1), (.long q2)] 4)) t := fun t k => k36 t (by
                show Steps p.tables e below (T34.setTop (mkF m 48 #[.val (.ref a1), .val (.long q2), .second, .val (.int i3)] [])) _
                refine XS.goto X34.here hx rfl (pc0 := 48) (pc' := 12) rfl (hb hby d9_48) (by decide) (by decide) ?_
                show Steps p.tables e below (T34.setTop (mkF m 12 #[.val (.ref a1), .val (.long q2), .second, .val (.int i3)] [])) _
                refine XS.aloadN X34.here hx rfl (hb hby d9_12) rfl rfl ?_
                show Steps p.tables e below (T34.setTop (mkF m 13 #[.val (.ref a1), .val (.long q2), .second, .val (.int i3)] [(.ref a1)])) _
                refine st37 _ ?_
                show Steps p.tables e below (T37.setTop (mkF m 16 #[.val (.ref a1), .val (.long q2), .second, .val (.int i3)] [(.ref ak)])) _
                refine XS.iloadN X37.here hx rfl (hb hby d9_16) rfl ?_
                show Steps p.tables e below (T37.setTop (mkF m 17 #[.val (.ref a1), .val (.long q2), .second, .val (.int i3)] [(.int i3), (.ref ak)])) _
                refine own_ldJ X37 hx hZ e37 V1 r3 (g := (mkF m 17 #[.val (.ref a1), .val (.long q2), .second, .val (.int i3)] [(.int i3), (.ref ak)])) rfl rfl (hb hby d9_17) _ ?_
                show Steps p.tables e below (T37.setTop (mkF m 18 #[.val (.ref a1), .val (.long q2), .second, .val (.int i3)] [(.long (KS.getD i3.toNatClampNeg 0))])) _
                refine X37.ldc2Long hx hown (mvT hZ (hw _ (List.mem_of_getElem? (i := 18) rfl))) (g := (mkF m 18 #[.val (.ref a1), .val (.long q2), .second, .val (.int i3)] [(.long (KS.getD i3.toNatClampNeg 0))])) rfl (hb hby d9_18) _ ?_
                show Steps p.tables e below (T37.setTop (mkF m 21 #[.val (.ref a1), .val (.long q2), .second, .val (.int i3)] [(.long (-1 : Int64)), (.long (KS.getD i3.toNatClampNeg 0))])) _
                refine XS.lcmp X37.here hx rfl (hb hby d9_21) rfl ?_
                show Steps p.tables e below (T37.setTop (mkF m 22 #[.val (.ref a1), .val (.long q2), .second, .val (.int i3)] [(.int (lcmpW (KS.getD i3.toNatClampNeg 0) (-1 : Int64)))])) _
                refine XS.ifYes X37.here hx rfl (pc0 := 22) (pc' := 51) rfl (hb hby d9_22) rfl ((if0 _ _).trans (teq ((lw_eq (KS.getD i3.toNatClampNeg 0) (-1 : Int64)).mpr (own_fr_0 hz3))).1) (by decide) (by decide) ?_
                show Steps p.tables e below (T37.setTop (mkF m 51 #[.val (.ref a1), .val (.long q2), .second, .val (.int i3)] [])) _
                refine XS.iloadN X37.here hx rfl (hb hby d9_51) rfl ?_
                exact k)
              obtain ⟨fs, hr, hrun, hended, hW, hsame⟩ := X37.leave (v := some (.int i3)) (fun h => by rw [Bd.returns] at h; cases h) (BodyLoose.notSynchronized Bd)
              refine ⟨_, _, k39 _ ?_, hrun, hended, _, _, rfl, ?_, ⟨_, rfl⟩, hW, hsame.mono (by decide) (by decide)⟩
              · show Steps p.tables e below (T37.setTop (mkF m 52 #[.val (.ref a1), .val (.long q2), .second, .val (.int i3)] [(.int i3)])) _
                exact retI X37 hx Bd.returns (hb hby d9_52) hr
              ·
                show Qprobe _ a1 q2 ak kk KS h0 n0 _ T37.heap _
                rw [e37]
                exact ⟨by rw [hv], N0, rfl⟩
def own_child (KS : List Int64) (CH : List Int32) (k : Int64) : Int32 := if KS.getD (own_pr KS k 3 (own_h k)).toNatClampNeg 0 = (-1 : Int64) then (-1 : Int32) else CH.getD (own_pr KS k 3 (own_h k)).toNatClampNeg 0
def own_addv (nd : Int32) (KS : List Int64) (CH : List Int32) (k : Int64) : Int32 := if KS.getD (own_pr KS k 3 (own_h k)).toNatClampNeg 0 = (-1 : Int64) then nd else CH.getD (own_pr KS k 3 (own_h k)).toNatClampNeg 0
def own_addn (nd : Int32) (KS : List Int64) (k : Int64) : Int32 := if KS.getD (own_pr KS k 3 (own_h k)).toNatClampNeg 0 = (-1 : Int64) then nd + 1 else nd
def own_addk (KS : List Int64) (k : Int64) : List Int64 := if KS.getD (own_pr KS k 3 (own_h k)).toNatClampNeg 0 = (-1 : Int64) then KS.set (own_pr KS k 3 (own_h k)).toNatClampNeg k else KS
def own_addc (nd : Int32) (KS : List Int64) (CH : List Int32) (k : Int64) : List Int32 := if KS.getD (own_pr KS k 3 (own_h k)).toNatClampNeg 0 = (-1 : Int64) then CH.set (own_pr KS k 3 (own_h k)).toNatClampNeg nd else CH
theorem pd__II_J : parseMethodDescriptor "(II)J" = some ⟨[.int, .int], some .long⟩ := by decide +kernel
theorem d7_0 : decode prog_40_method_2_code 0 = .ok (.aload_n 0, 1) := by decide +kernel
theorem d7_1 : decode prog_40_method_2_code 1 = .ok (.iload_n 1, 1) := by decide +kernel
theorem d7_2 : decode prog_40_method_2_code 2 = .ok (.iload_n 2, 1) := by decide +kernel
theorem d7_3 : decode prog_40_method_2_code 3 = .ok (.invokestatic 21, 3) := by decide +kernel
theorem d7_6 : decode prog_40_method_2_code 6 = .ok (.invokevirtual 25, 3) := by decide +kernel
theorem d7_9 : decode prog_40_method_2_code 9 = .ok (.istore_n 3, 1) := by decide +kernel
theorem d7_10 : decode prog_40_method_2_code 10 = .ok (.aload_n 0, 1) := by decide +kernel
theorem d7_11 : decode prog_40_method_2_code 11 = .ok (.getfield 29, 3) := by decide +kernel
theorem d7_14 : decode prog_40_method_2_code 14 = .ok (.iload_n 3, 1) := by decide +kernel
theorem d7_15 : decode prog_40_method_2_code 15 = .ok (.laload, 1) := by decide +kernel
theorem d7_16 : decode prog_40_method_2_code 16 = .ok (.ldc2_w 33, 3) := by decide +kernel
theorem d7_19 : decode prog_40_method_2_code 19 = .ok (.lcmp, 1) := by decide +kernel
theorem d7_20 : decode prog_40_method_2_code 20 = .ok (.ifCond .ne 7, 3) := by decide +kernel
theorem d7_23 : decode prog_40_method_2_code 23 = .ok (.iconst (-1), 1) := by decide +kernel
theorem d7_24 : decode prog_40_method_2_code 24 = .ok (.goto 9, 3) := by decide +kernel
theorem d7_27 : decode prog_40_method_2_code 27 = .ok (.aload_n 0, 1) := by decide +kernel
theorem d7_28 : decode prog_40_method_2_code 28 = .ok (.getfield 35, 3) := by decide +kernel
theorem d7_31 : decode prog_40_method_2_code 31 = .ok (.iload_n 3, 1) := by decide +kernel
theorem d7_32 : decode prog_40_method_2_code 32 = .ok (.iaload, 1) := by decide +kernel
theorem d7_33 : decode prog_40_method_2_code 33 = .ok (.ireturn, 1) := by decide +kernel
theorem pn_7 : plainName "com/example/histories_to_cohorts/historiestocohorts/service/SetTrie" = true := by first | (simp [plainName, overriddenIn]; done) | decide +kernel
theorem ef_child (m : MethodId) (x0 : Addr) (x1 : Int32) (x2 : Int32) : entryFrame m #[(.ref x0), (.int x1), (.int x2)] 4 = mkF m 0 #[.val (.ref x0), .val (.int x1), .val (.int x2), .unset] [] := by first | (simp [entryFrame, mkF, argsToLocals, Value.category]; done) | rfl
def Qchild (Z : State) (a1 : Addr) (p2 : Int32) (p3 : Int32) (nd : Int32) (KS : List Int64) (CH : List Int32) (ak : Addr) (ac : Addr) (an : Addr) (kk : ClassId) (kc : ClassId) (kn : ClassId) (h0 : Heap) (n0 : Nat) (v : Option Value) (h : Heap) (L : List Loc) : Prop := v = some (.int (own_child KS CH (own_key p2 p3))) ∧ Fr n0 L ∧ h = h0
set_option maxRecDepth 65536 in
set_option maxHeartbeats 40000000 in
theorem rm_child (l : Launch) (Z : State) (a0 : Array Value) (hw : ∀ d ∈ tables_1, d.before a0 Z = true) (ws : List Jvm.Cond) (a1 : Addr) (p2 : Int32) (p3 : Int32) (nd : Int32) (KS : List Int64) (CH : List Int32) (ak : Addr) (ac : Addr) (an : Addr) (kk : ClassId) (kc : ClassId) (kn : ClassId) (h0 : Heap) (n0 : Nat) (Z0 : n0 ≤ h0.size) (S1 : own_ST Z h0 a1 nd KS CH ak ac an kk kc kn) (hz : own_fr KS 3 (own_h (own_key p2 p3))) :
    MetFree l (⟨"com/example/histories_to_cohorts/historiestocohorts/service/SetTrie", "child", "(II)I"⟩ : MethodName) (head1 (Jvm.Cond.code (⟨"com/example/histories_to_cohorts/historiestocohorts/service/SetTrie", "child", "(II)I"⟩ : MethodName) prog_40_method_2_code 4 (some .int) :: ws) ({ frames := 1, cells := 0, slots := 0, locals := 15 } : Room)) (fun a U => a = #[(.ref a1), (.int p2), (.int p3)] ∧ Z.Warmed39 U.vm ∧ U.heap = h0) (fun _ _ _ _ _ => True) (fun _ U o U' => ∃ v L, o = .returned v ∧ Qchild Z a1 p2 p3 nd KS CH ak ac an kk kc kn h0 n0 v U'.heap L ∧ FrameEnd U o U' L ({ frames := 1, cells := 0, slots := 0, locals := 15 } : Room).cells ({ frames := 1, cells := 0, slots := 0, locals := 15 } : Room).slots) := by
  refine MetFree.of_bodySF (plainFor_of_name pn_7) hisR ?_
  intro p e s m args below meth c s₁ Bd hml0 hP hK
  obtain ⟨rfl, hZ, hh⟩ := hP
  have hx := Bd.exec
  have hby := Bd.bytes
  have hml : c.maxLocals = 4 := hml0
  have hown : s.vm.findClass "com/example/histories_to_cohorts/historiestocohorts/service/SetTrie" = some m.cls := findClass_of_methodNamed Bd.named
  have hnm := (name_of_methodNamed Bd.named Bd.method).1
  have X0 : Stand p l e ({ frames := 1, cells := 0, slots := 0, locals := 15 } : Room) s m #[(.ref a1), (.int p2), (.int p3)] below meth c s₁ [] 0 0 := Stand.of_body Bd
  have e0 : s₁.heap = h0 := by rw [← hh, Bd.state]; rfl
  have N0 := Fr.nil n0
  have k0 : ∀ t, Steps p.tables e below (s₁.setTop (mkF m 0 #[.val (.ref a1), .val (.int p2), .val (.int p3), .unset] [])) t → Steps p.tables e below (s₁.setTop (entryFrame m #[(.ref a1), (.int p2), (.int p3)] 4)) t := fun t k => castTop (ef_child m a1 p2 p3) k
  obtain ⟨E1, F1a, F1b, F1c, F1d, F1e, V1k, V1c, V1n⟩ := S1
  obtain ⟨_, _, ⟨T2, L2, kk2, n2⟩, -, X2, ⟨Lc2, hQ2, l2, y2, z2⟩, st2⟩ := Jvm.LawKit.callS X0 hx (y := (⟨"com/example/histories_to_cohorts/historiestocohorts/service/SetTrie", "key", "(II)J"⟩ : MethodName)) hown (mvT hZ (hw _ (List.mem_of_getElem? (i := 44) rfl))) (mvT hZ (hw _ (List.mem_of_getElem? (i := 45) rfl))) (mvT hZ (hw _ (List.mem_of_getElem? (i := 2) rfl))) (mvT hZ (hw _ (List.mem_of_getElem? (i := 46) rfl))) (by decide) (backOf (W := 1) (rm_key l Z a0 hw [] p2 p3 h0 n0 Z0) hZ (hw _ (List.mem_of_getElem? (i := 46) rfl)) (hw _ (List.mem_of_getElem? (i := 2) rfl)) (by decide) (by decide)) (g := (mkF m 3 #[.val (.ref a1), .val (.int p2), .val (.int p3), .unset] [(.int p3), (.int p2), (.ref a1)])) rfl (by rw [hml]; rfl) (argsL := [(.int p2), (.int p3)]) (rest := [(.ref a1)]) (lenOf pd__II_J rfl) rfl (by show 2 * 0 + _ ≤ _; exact Nat.le_of_eq rfl) (hb hby d7_3) (fun _ _ => ⟨rfl, e0, (by decide : 0 + 0 ≤ _), (by decide : 0 + 0 ≤ _)⟩)
  dsimp only [Pt.U, Pt.locs, Pt.cells, Pt.slots] at X2 l2 y2 z2 st2 hQ2
  subst l2 y2 z2
  obtain ⟨rfl, N2q, qk⟩ := hQ2
  have N2 := Fr.app N0 N2q
  obtain ⟨cpv3, pv3, pv3'⟩ := E1.cell
  obtain ⟨_, _, ⟨T3, L3, kk3, n3⟩, -, X3, ⟨Lc3, hQ3, l3, y3, z3⟩, st3⟩ := X2.privateBack hx (y := (⟨"com/example/histories_to_cohorts/historiestocohorts/service/SetTrie", "probe", "(J)I"⟩ : MethodName)) hown (mvT hZ (hw _ (List.mem_of_getElem? (i := 48) rfl))) (mvT hZ (hw _ (List.mem_of_getElem? (i := 49) rfl))) (mvT hZ (own_sel (hw _ (List.mem_of_getElem? (i := 49) rfl)) (hw _ (List.mem_of_getElem? (i := 50) rfl)) (hw _ (List.mem_of_getElem? (i := 1) rfl)) (by decide))) (Cond.privateMethod_at (mvP hZ (hw _ (List.mem_of_getElem? (i := 50) rfl)) (args := #[]))) (mvT hZ (hw _ (List.mem_of_getElem? (i := 51) rfl))) (by decide) (backOf (W := 0) (rm_probe l Z a0 hw [] a1 (own_key p2 p3) ak kk KS h0 n0 Z0 F1a F1e V1k hz) hZ (hw _ (List.mem_of_getElem? (i := 51) rfl)) (hw _ (List.mem_of_getElem? (i := 2) rfl)) (by decide) (by decide)) (g := (mkF m 6 #[.val (.ref a1), .val (.int p2), .val (.int p3), .unset] [(.long (own_key p2 p3)), (.ref a1)])) rfl (by rw [hml]; rfl) (Steps.refl _) (a := a1) (by rw [qk]; exact pv3) pv3' (argsL := [(.long (own_key p2 p3))]) (rest := []) (lenOf pd__J_I rfl) rfl (by show 2 * 0 + _ ≤ _; exact Nat.le_of_eq rfl) (hb hby d7_6) (fun _ _ => ⟨rfl, qk, (by decide : 0 + 0 ≤ _), (by decide : 0 + 0 ≤ _)⟩)
  dsimp only [Pt.U, Pt.locs, Pt.cells, Pt.slots] at X3 l3 y3 z3 st3 hQ3
  subst l3 y3 z3
  obtain ⟨rfl, N3q, qp⟩ := hQ3
  have N3 := Fr.app N2 N3q
  have k4 : ∀ t, Steps p.tables e below (T3.setTop (mkF m 10 #[.val (.ref a1), .val (.int p2), .val (.int p3), .val (.int (own_pr KS (own_key p2 p3) 3 (own_h (own_key p2 p3))))] [])) t → Steps p.tables e below (s₁.setTop (entryFrame m #[(.ref a1), (.int p2), (.int p3)] 4)) t := fun t k => k0 t (by
    show Steps p.tables e below (s₁.setTop (mkF m 0 #[.val (.ref a1), .val (.int p2), .val (.int p3), .unset] [])) _
    refine XS.aloadN X0.here hx rfl (hb hby d7_0) rfl rfl ?_
    show Steps p.tables e below (s₁.setTop (mkF m 1 #[.val (.ref a1), .val (.int p2), .val (.int p3), .unset] [(.ref a1)])) _
    refine XS.iloadN X0.here hx rfl (hb hby d7_1) rfl ?_
    show Steps p.tables e below (s₁.setTop (mkF m 2 #[.val (.ref a1), .val (.int p2), .val (.int p3), .unset] [(.int p2), (.ref a1)])) _
    refine XS.iloadN X0.here hx rfl (hb hby d7_2) rfl ?_
    show Steps p.tables e below (s₁.setTop (mkF m 3 #[.val (.ref a1), .val (.int p2), .val (.int p3), .unset] [(.int p3), (.int p2), (.ref a1)])) _
    refine st2 _ ?_
    show Steps p.tables e below (T2.setTop (mkF m 6 #[.val (.ref a1), .val (.int p2), .val (.int p3), .unset] [(.long (own_key p2 p3)), (.ref a1)])) _
    refine st3.trans ?_
    show Steps p.tables e below (T3.setTop (mkF m 9 #[.val (.ref a1), .val (.int p2), .val (.int p3), .unset] [(.int (own_pr KS (own_key p2 p3) 3 (own_h (own_key p2 p3))))])) _
    refine XS.istoreN X3.here hx rfl (hb hby d7_9) rfl (l' := #[.val (.ref a1), .val (.int p2), .val (.int p3), .val (.int (own_pr KS (own_key p2 p3) 3 (own_h (own_key p2 p3))))]) rfl ?_
    exact k)
  obtain ⟨sl, hd_sl⟩ : ∃ z : Int32, z = (own_pr KS (own_key p2 p3) 3 (own_h (own_key p2 p3))) := ⟨_, rfl⟩
  have k5 : ∀ t, Steps p.tables e below (T3.setTop (mkF m 10 #[.val (.ref a1), .val (.int p2), .val (.int p3), .val (.int sl)] [])) t → Steps p.tables e below (s₁.setTop (entryFrame m #[(.ref a1), (.int p2), (.int p3)] 4)) t := by rw [hd_sl]; exact k4
  have rs : ¬ sl < 0 ∧ sl < (16 : Int32) := by rw [hd_sl]; exact own_pr_rg KS _ 3 _ (own_h_rg _)
  obtain ⟨T6, X6, e6, st6⟩ := getF X3 hx hZ hown (host := "") (Or.inl (hw _ (List.mem_of_getElem? (i := 16) rfl))) Via.refl qp F1a (g := (mkF m 11 #[.val (.ref a1), .val (.int p2), .val (.int p3), .val (.int sl)] [(.ref a1)])) rfl rfl (hb hby d7_11)
  have k7 : ∀ t, Steps p.tables e below (T6.setTop (mkF m 20 #[.val (.ref a1), .val (.int p2), .val (.int p3), .val (.int sl)] [(.int (lcmpW (KS.getD sl.toNatClampNeg 0) (-1 : Int64)))])) t → Steps p.tables e below (s₁.setTop (entryFrame m #[(.ref a1), (.int p2), (.int p3)] 4)) t := fun t k => k5 t (by
    show Steps p.tables e below (T3.setTop (mkF m 10 #[.val (.ref a1), .val (.int p2), .val (.int p3), .val (.int sl)] [])) _
    refine XS.aloadN X3.here hx rfl (hb hby d7_10) rfl rfl ?_
    show Steps p.tables e below (T3.setTop (mkF m 11 #[.val (.ref a1), .val (.int p2), .val (.int p3), .val (.int sl)] [(.ref a1)])) _
    refine st6 _ ?_
    show Steps p.tables e below (T6.setTop (mkF m 14 #[.val (.ref a1), .val (.int p2), .val (.int p3), .val (.int sl)] [(.ref ak)])) _
    refine XS.iloadN X6.here hx rfl (hb hby d7_14) rfl ?_
    show Steps p.tables e below (T6.setTop (mkF m 15 #[.val (.ref a1), .val (.int p2), .val (.int p3), .val (.int sl)] [(.int sl), (.ref ak)])) _
    refine own_ldJ X6 hx hZ e6 V1k rs (g := (mkF m 15 #[.val (.ref a1), .val (.int p2), .val (.int p3), .val (.int sl)] [(.int sl), (.ref ak)])) rfl rfl (hb hby d7_15) _ ?_
    show Steps p.tables e below (T6.setTop (mkF m 16 #[.val (.ref a1), .val (.int p2), .val (.int p3), .val (.int sl)] [(.long (KS.getD sl.toNatClampNeg 0))])) _
    refine X6.ldc2Long hx hown (mvT hZ (hw _ (List.mem_of_getElem? (i := 18) rfl))) (g := (mkF m 16 #[.val (.ref a1), .val (.int p2), .val (.int p3), .val (.int sl)] [(.long (KS.getD sl.toNatClampNeg 0))])) rfl (hb hby d7_16) _ ?_
    show Steps p.tables e below (T6.setTop (mkF m 19 #[.val (.ref a1), .val (.int p2), .val (.int p3), .val (.int sl)] [(.long (-1 : Int64)), (.long (KS.getD sl.toNatClampNeg 0))])) _
    refine XS.lcmp X6.here hx rfl (hb hby d7_19) rfl ?_
    exact k)
  by_cases cd20 : (KS.getD sl.toNatClampNeg 0) = (-1 : Int64)
  ·
    have hv : own_child KS CH (own_key p2 p3) = (-1 : Int32) := by
      unfold own_child; rw [← hd_sl]; exact if_pos cd20
    have k9 : ∀ t, Steps p.tables e below (T6.setTop (mkF m 33 #[.val (.ref a1), .val (.int p2), .val (.int p3), .val (.int sl)] [(.int (-1 : Int32))])) t → Steps p.tables e below (s₁.setTop (entryFrame m #[(.ref a1), (.int p2), (.int p3)] 4)) t := fun t k => k7 t (by
      show Steps p.tables e below (T6.setTop (mkF m 20 #[.val (.ref a1), .val (.int p2), .val (.int p3), .val (.int sl)] [(.int (lcmpW (KS.getD sl.toNatClampNeg 0) (-1 : Int64)))])) _
      refine XS.ifNo X6.here hx rfl (hb hby d7_20) rfl ((if0 _ _).trans (teq ((lw_eq (KS.getD sl.toNatClampNeg 0) (-1 : Int64)).mpr cd20)).2) ?_
      show Steps p.tables e below (T6.setTop (mkF m 23 #[.val (.ref a1), .val (.int p2), .val (.int p3), .val (.int sl)] [])) _
      refine XS.iconst X6.here hx rfl (hb hby d7_23) ?_
      show Steps p.tables e below (T6.setTop (mkF m 24 #[.val (.ref a1), .val (.int p2), .val (.int p3), .val (.int sl)] [(.int (-1 : Int32))])) _
      refine XS.goto X6.here hx rfl (pc0 := 24) (pc' := 33) rfl (hb hby d7_24) (by decide) (by decide) ?_
      exact k)
    obtain ⟨fs, hr, hrun, hended, hW, hsame⟩ := X6.leave (v := some (.int (-1 : Int32))) (fun h => by rw [Bd.returns] at h; cases h) (BodyLoose.notSynchronized Bd)
    refine ⟨_, _, k9 _ ?_, hrun, hended, _, _, rfl, ?_, ⟨_, rfl⟩, hW, hsame.mono (by decide) (by decide)⟩
    · show Steps p.tables e below (T6.setTop (mkF m 33 #[.val (.ref a1), .val (.int p2), .val (.int p3), .val (.int sl)] [(.int (-1 : Int32))])) _
      exact retI X6 hx Bd.returns (hb hby d7_33) hr
    ·
      show Qchild _ a1 p2 p3 nd KS CH ak ac an kk kc kn h0 n0 _ T6.heap _
      rw [e6]
      exact ⟨by rw [hv], N3, rfl⟩
  ·
    obtain ⟨T10, X10, e10, st10⟩ := getF X6 hx hZ hown (host := "") (Or.inl (hw _ (List.mem_of_getElem? (i := 24) rfl))) Via.refl e6 F1b (g := (mkF m 28 #[.val (.ref a1), .val (.int p2), .val (.int p3), .val (.int sl)] [(.ref a1)])) rfl rfl (hb hby d7_28)
    have hv : own_child KS CH (own_key p2 p3) = (CH.getD sl.toNatClampNeg 0) := by
      unfold own_child; rw [← hd_sl]; exact if_neg cd20
    have k12 : ∀ t, Steps p.tables e below (T10.setTop (mkF m 33 #[.val (.ref a1), .val (.int p2), .val (.int p3), .val (.int sl)] [(.int (CH.getD sl.toNatClampNeg 0))])) t → Steps p.tables e below (s₁.setTop (entryFrame m #[(.ref a1), (.int p2), (.int p3)] 4)) t := fun t k => k7 t (by
      show Steps p.tables e below (T6.setTop (mkF m 20 #[.val (.ref a1), .val (.int p2), .val (.int p3), .val (.int sl)] [(.int (lcmpW (KS.getD sl.toNatClampNeg 0) (-1 : Int64)))])) _
      refine XS.ifYes X6.here hx rfl (pc0 := 20) (pc' := 27) rfl (hb hby d7_20) rfl ((if0 _ _).trans (feq (fun q => cd20 ((lw_eq (KS.getD sl.toNatClampNeg 0) (-1 : Int64)).mp q))).2) (by decide) (by decide) ?_
      show Steps p.tables e below (T6.setTop (mkF m 27 #[.val (.ref a1), .val (.int p2), .val (.int p3), .val (.int sl)] [])) _
      refine XS.aloadN X6.here hx rfl (hb hby d7_27) rfl rfl ?_
      show Steps p.tables e below (T6.setTop (mkF m 28 #[.val (.ref a1), .val (.int p2), .val (.int p3), .val (.int sl)] [(.ref a1)])) _
      refine st10 _ ?_
      show Steps p.tables e below (T10.setTop (mkF m 31 #[.val (.ref a1), .val (.int p2), .val (.int p3), .val (.int sl)] [(.ref ac)])) _
      refine XS.iloadN X10.here hx rfl (hb hby d7_31) rfl ?_
      show Steps p.tables e below (T10.setTop (mkF m 32 #[.val (.ref a1), .val (.int p2), .val (.int p3), .val (.int sl)] [(.int sl), (.ref ac)])) _
      refine own_ldI X10 hx hZ e10 V1c rs (g := (mkF m 32 #[.val (.ref a1), .val (.int p2), .val (.int p3), .val (.int sl)] [(.int sl), (.ref ac)])) rfl rfl (hb hby d7_32) _ ?_
      exact k)
    obtain ⟨fs, hr, hrun, hended, hW, hsame⟩ := X10.leave (v := some (.int (CH.getD sl.toNatClampNeg 0))) (fun h => by rw [Bd.returns] at h; cases h) (BodyLoose.notSynchronized Bd)
    refine ⟨_, _, k12 _ ?_, hrun, hended, _, _, rfl, ?_, ⟨_, rfl⟩, hW, hsame.mono (by decide) (by decide)⟩
    · show Steps p.tables e below (T10.setTop (mkF m 33 #[.val (.ref a1), .val (.int p2), .val (.int p3), .val (.int sl)] [(.int (CH.getD sl.toNatClampNeg 0))])) _
      exact retI X10 hx Bd.returns (hb hby d7_33) hr
    ·
      show Qchild _ a1 p2 p3 nd KS CH ak ac an kk kc kn h0 n0 _ T10.heap _
      rw [e10]
      exact ⟨by rw [hv], N3, rfl⟩
theorem d10_0 : decode prog_40_method_3_code 0 = .ok (.iload_n 1, 1) := by decide +kernel
theorem d10_1 : decode prog_40_method_3_code 1 = .ok (.iload_n 2, 1) := by decide +kernel
theorem d10_2 : decode prog_40_method_3_code 2 = .ok (.invokestatic 21, 3) := by decide +kernel
theorem d10_5 : decode prog_40_method_3_code 5 = .ok (.lstore_n 3, 1) := by decide +kernel
theorem d10_6 : decode prog_40_method_3_code 6 = .ok (.aload_n 0, 1) := by decide +kernel
theorem d10_7 : decode prog_40_method_3_code 7 = .ok (.lload_n 3, 1) := by decide +kernel
theorem d10_8 : decode prog_40_method_3_code 8 = .ok (.invokevirtual 25, 3) := by decide +kernel
theorem d10_11 : decode prog_40_method_3_code 11 = .ok (.istore 5, 2) := by decide +kernel
theorem d10_13 : decode prog_40_method_3_code 13 = .ok (.aload_n 0, 1) := by decide +kernel
theorem d10_14 : decode prog_40_method_3_code 14 = .ok (.getfield 29, 3) := by decide +kernel
theorem d10_17 : decode prog_40_method_3_code 17 = .ok (.iload 5, 2) := by decide +kernel
theorem d10_19 : decode prog_40_method_3_code 19 = .ok (.laload, 1) := by decide +kernel
theorem d10_20 : decode prog_40_method_3_code 20 = .ok (.ldc2_w 33, 3) := by decide +kernel
theorem d10_23 : decode prog_40_method_3_code 23 = .ok (.lcmp, 1) := by decide +kernel
theorem d10_24 : decode prog_40_method_3_code 24 = .ok (.ifCond .eq 11, 3) := by decide +kernel
theorem d10_27 : decode prog_40_method_3_code 27 = .ok (.aload_n 0, 1) := by decide +kernel
theorem d10_28 : decode prog_40_method_3_code 28 = .ok (.getfield 35, 3) := by decide +kernel
theorem d10_31 : decode prog_40_method_3_code 31 = .ok (.iload 5, 2) := by decide +kernel
theorem d10_33 : decode prog_40_method_3_code 33 = .ok (.iaload, 1) := by decide +kernel
theorem d10_34 : decode prog_40_method_3_code 34 = .ok (.ireturn, 1) := by decide +kernel
theorem d10_35 : decode prog_40_method_3_code 35 = .ok (.aload_n 0, 1) := by decide +kernel
theorem d10_36 : decode prog_40_method_3_code 36 = .ok (.getfield 7, 3) := by decide +kernel
theorem d10_39 : decode prog_40_method_3_code 39 = .ok (.istore 6, 2) := by decide +kernel
theorem d10_41 : decode prog_40_method_3_code 41 = .ok (.aload_n 0, 1) := by decide +kernel
theorem d10_42 : decode prog_40_method_3_code 42 = .ok (.getfield 29, 3) := by decide +kernel
theorem d10_45 : decode prog_40_method_3_code 45 = .ok (.iload 5, 2) := by decide +kernel
theorem d10_47 : decode prog_40_method_3_code 47 = .ok (.lload_n 3, 1) := by decide +kernel
theorem d10_48 : decode prog_40_method_3_code 48 = .ok (.lastore, 1) := by decide +kernel
theorem d10_49 : decode prog_40_method_3_code 49 = .ok (.aload_n 0, 1) := by decide +kernel
theorem d10_50 : decode prog_40_method_3_code 50 = .ok (.getfield 35, 3) := by decide +kernel
theorem d10_53 : decode prog_40_method_3_code 53 = .ok (.iload 5, 2) := by decide +kernel
theorem d10_55 : decode prog_40_method_3_code 55 = .ok (.iload 6, 2) := by decide +kernel
theorem d10_57 : decode prog_40_method_3_code 57 = .ok (.iastore, 1) := by decide +kernel
theorem d10_58 : decode prog_40_method_3_code 58 = .ok (.aload_n 0, 1) := by decide +kernel
theorem d10_59 : decode prog_40_method_3_code 59 = .ok (.dup, 1) := by decide +kernel
theorem d10_60 : decode prog_40_method_3_code 60 = .ok (.getfield 7, 3) := by decide +kernel
theorem d10_63 : decode prog_40_method_3_code 63 = .ok (.iconst 1, 1) := by decide +kernel
theorem d10_64 : decode prog_40_method_3_code 64 = .ok (.iadd, 1) := by decide +kernel
theorem d10_65 : decode prog_40_method_3_code 65 = .ok (.putfield 7, 3) := by decide +kernel
theorem d10_68 : decode prog_40_method_3_code 68 = .ok (.aload_n 0, 1) := by decide +kernel
theorem d10_69 : decode prog_40_method_3_code 69 = .ok (.getfield 7, 3) := by decide +kernel
theorem d10_72 : decode prog_40_method_3_code 72 = .ok (.aload_n 0, 1) := by decide +kernel
theorem d10_73 : decode prog_40_method_3_code 73 = .ok (.getfield 17, 3) := by decide +kernel
theorem d10_76 : decode prog_40_method_3_code 76 = .ok (.arraylength, 1) := by decide +kernel
theorem d10_77 : decode prog_40_method_3_code 77 = .ok (.if_icmp .ne 21, 3) := by decide +kernel
theorem d10_98 : decode prog_40_method_3_code 98 = .ok (.ldc2_w 44, 3) := by decide +kernel
theorem d10_101 : decode prog_40_method_3_code 101 = .ok (.aload_n 0, 1) := by decide +kernel
theorem d10_102 : decode prog_40_method_3_code 102 = .ok (.getfield 7, 3) := by decide +kernel
theorem d10_105 : decode prog_40_method_3_code 105 = .ok (.i2l, 1) := by decide +kernel
theorem d10_106 : decode prog_40_method_3_code 106 = .ok (.lmul, 1) := by decide +kernel
theorem d10_107 : decode prog_40_method_3_code 107 = .ok (.ldc2_w 46, 3) := by decide +kernel
theorem d10_110 : decode prog_40_method_3_code 110 = .ok (.aload_n 0, 1) := by decide +kernel
theorem d10_111 : decode prog_40_method_3_code 111 = .ok (.getfield 29, 3) := by decide +kernel
theorem d10_114 : decode prog_40_method_3_code 114 = .ok (.arraylength, 1) := by decide +kernel
theorem d10_115 : decode prog_40_method_3_code 115 = .ok (.i2l, 1) := by decide +kernel
theorem d10_116 : decode prog_40_method_3_code 116 = .ok (.lmul, 1) := by decide +kernel
theorem d10_117 : decode prog_40_method_3_code 117 = .ok (.lcmp, 1) := by decide +kernel
theorem d10_118 : decode prog_40_method_3_code 118 = .ok (.ifCond .le 7, 3) := by decide +kernel
theorem d10_125 : decode prog_40_method_3_code 125 = .ok (.iload 6, 2) := by decide +kernel
theorem d10_127 : decode prog_40_method_3_code 127 = .ok (.ireturn, 1) := by decide +kernel
theorem pn_10 : plainName "com/example/histories_to_cohorts/historiestocohorts/service/SetTrie" = true := by first | (simp [plainName, overriddenIn]; done) | decide +kernel
theorem ef_addc (m : MethodId) (x0 : Addr) (x1 : Int32) (x2 : Int32) : entryFrame m #[(.ref x0), (.int x1), (.int x2)] 7 = mkF m 0 #[.val (.ref x0), .val (.int x1), .val (.int x2), .unset, .unset, .unset, .unset] [] := by first | (simp [entryFrame, mkF, argsToLocals, Value.category]; done) | rfl
def Qaddc (Z : State) (a1 : Addr) (p2 : Int32) (p3 : Int32) (nd : Int32) (KS : List Int64) (CH : List Int32) (ak : Addr) (ac : Addr) (an : Addr) (kk : ClassId) (kc : ClassId) (kn : ClassId) (h0 : Heap) (n0 : Nat) (v : Option Value) (h : Heap) (L : List Loc) : Prop := v = some (.int (own_addv nd KS CH (own_key p2 p3))) ∧ Fr n0 L ∧ Keep h0 h [a1, ak, ac] ∧ own_ST Z h a1 (own_addn nd KS (own_key p2 p3)) (own_addk KS (own_key p2 p3)) (own_addc nd KS CH (own_key p2 p3)) ak ac an kk kc kn
set_option maxRecDepth 65536 in
set_option maxHeartbeats 40000000 in
theorem rm_addc (l : Launch) (Z : State) (a0 : Array Value) (hw : ∀ d ∈ tables_1, d.before a0 Z = true) (ws : List Jvm.Cond) (a1 : Addr) (p2 : Int32) (p3 : Int32) (nd : Int32) (KS : List Int64) (CH : List Int32) (ak : Addr) (ac : Addr) (an : Addr) (kk : ClassId) (kc : ClassId) (kn : ClassId) (h0 : Heap) (n0 : Nat) (Z0 : n0 ≤ h0.size) (S1 : own_ST Z h0 a1 nd KS CH ak ac an kk kc kn) (n1 : a1 ≠ ak) (n2 : a1 ≠ ac) (n3 : a1 ≠ an) (n4 : ak ≠ ac) (n5 : ak ≠ an) (n6 : ac ≠ an) (g_a1 : n0 ≤ a1) (g_ak : n0 ≤ ak) (g_ac : n0 ≤ ac) (hz : own_fr KS 3 (own_h (own_key p2 p3))) (lK : KS.length = 16) (lC : CH.length = 16) (hn1 : ¬ (nd + (1 : Int32)) = (16 : Int32)) (hn2 : ¬ ((3 : Int64) * ((16 : Int32).toInt64)) < ((4 : Int64) * ((nd + (1 : Int32)).toInt64))) :
    MetFree l (⟨"com/example/histories_to_cohorts/historiestocohorts/service/SetTrie", "addChild", "(II)I"⟩ : MethodName) (head1 (Jvm.Cond.code (⟨"com/example/histories_to_cohorts/historiestocohorts/service/SetTrie", "addChild", "(II)I"⟩ : MethodName) prog_40_method_3_code 7 (some .int) :: ws) ({ frames := 1, cells := 0, slots := 0, locals := 15 } : Room)) (fun a U => a = #[(.ref a1), (.int p2), (.int p3)] ∧ Z.Warmed39 U.vm ∧ U.heap = h0) (fun _ _ _ _ _ => True) (fun _ U o U' => ∃ v L, o = .returned v ∧ Qaddc Z a1 p2 p3 nd KS CH ak ac an kk kc kn h0 n0 v U'.heap L ∧ FrameEnd U o U' L ({ frames := 1, cells := 0, slots := 0, locals := 15 } : Room).cells ({ frames := 1, cells := 0, slots := 0, locals := 15 } : Room).slots) := by
  refine MetFree.of_bodySF (plainFor_of_name pn_10) hisR ?_
  intro p e s m args below meth c s₁ Bd hml0 hP hK
  obtain ⟨rfl, hZ, hh⟩ := hP
  have hx := Bd.exec
  have hby := Bd.bytes
  have hml : c.maxLocals = 7 := hml0
  have hown : s.vm.findClass "com/example/histories_to_cohorts/historiestocohorts/service/SetTrie" = some m.cls := findClass_of_methodNamed Bd.named
  have hnm := (name_of_methodNamed Bd.named Bd.method).1
  have X0 : Stand p l e ({ frames := 1, cells := 0, slots := 0, locals := 15 } : Room) s m #[(.ref a1), (.int p2), (.int p3)] below meth c s₁ [] 0 0 := Stand.of_body Bd
  have e0 : s₁.heap = h0 := by rw [← hh, Bd.state]; rfl
  have N0 := Fr.nil n0
  have k0 : ∀ t, Steps p.tables e below (s₁.setTop (mkF m 0 #[.val (.ref a1), .val (.int p2), .val (.int p3), .unset, .unset, .unset, .unset] [])) t → Steps p.tables e below (s₁.setTop (entryFrame m #[(.ref a1), (.int p2), (.int p3)] 7)) t := fun t k => castTop (ef_addc m a1 p2 p3) k
  obtain ⟨E1, F1a, F1b, F1c, F1d, F1e, V1k, V1c, V1n⟩ := S1
  obtain ⟨_, _, ⟨T2, L2, kk2, n2⟩, -, X2, ⟨Lc2, hQ2, l2, y2, z2⟩, st2⟩ := Jvm.LawKit.callS X0 hx (y := (⟨"com/example/histories_to_cohorts/historiestocohorts/service/SetTrie", "key", "(II)J"⟩ : MethodName)) hown (mvT hZ (hw _ (List.mem_of_getElem? (i := 44) rfl))) (mvT hZ (hw _ (List.mem_of_getElem? (i := 45) rfl))) (mvT hZ (hw _ (List.mem_of_getElem? (i := 2) rfl))) (mvT hZ (hw _ (List.mem_of_getElem? (i := 46) rfl))) (by decide) (backOf (W := 0) (rm_key l Z a0 hw [] p2 p3 h0 n0 Z0) hZ (hw _ (List.mem_of_getElem? (i := 46) rfl)) (hw _ (List.mem_of_getElem? (i := 2) rfl)) (by decide) (by decide)) (g := (mkF m 2 #[.val (.ref a1), .val (.int p2), .val (.int p3), .unset, .unset, .unset, .unset] [(.int p3), (.int p2)])) rfl (by rw [hml]; rfl) (argsL := [(.int p2), (.int p3)]) (rest := []) (lenOf pd__II_J rfl) rfl (by show 2 * 0 + _ ≤ _; exact Nat.le_of_eq rfl) (hb hby d10_2) (fun _ _ => ⟨rfl, e0, (by decide : 0 + 0 ≤ _), (by decide : 0 + 0 ≤ _)⟩)
  dsimp only [Pt.U, Pt.locs, Pt.cells, Pt.slots] at X2 l2 y2 z2 st2 hQ2
  subst l2 y2 z2
  obtain ⟨rfl, N2q, qk⟩ := hQ2
  have N2 := Fr.app N0 N2q
  obtain ⟨cpv3, pv3, pv3'⟩ := E1.cell
  obtain ⟨_, _, ⟨T3, L3, kk3, n3⟩, -, X3, ⟨Lc3, hQ3, l3, y3, z3⟩, st3⟩ := X2.privateBack hx (y := (⟨"com/example/histories_to_cohorts/historiestocohorts/service/SetTrie", "probe", "(J)I"⟩ : MethodName)) hown (mvT hZ (hw _ (List.mem_of_getElem? (i := 48) rfl))) (mvT hZ (hw _ (List.mem_of_getElem? (i := 49) rfl))) (mvT hZ (own_sel (hw _ (List.mem_of_getElem? (i := 49) rfl)) (hw _ (List.mem_of_getElem? (i := 50) rfl)) (hw _ (List.mem_of_getElem? (i := 1) rfl)) (by decide))) (Cond.privateMethod_at (mvP hZ (hw _ (List.mem_of_getElem? (i := 50) rfl)) (args := #[]))) (mvT hZ (hw _ (List.mem_of_getElem? (i := 51) rfl))) (by decide) (backOf (W := 0) (rm_probe l Z a0 hw [] a1 (own_key p2 p3) ak kk KS h0 n0 Z0 F1a F1e V1k hz) hZ (hw _ (List.mem_of_getElem? (i := 51) rfl)) (hw _ (List.mem_of_getElem? (i := 2) rfl)) (by decide) (by decide)) (g := (mkF m 8 #[.val (.ref a1), .val (.int p2), .val (.int p3), .val (.long (own_key p2 p3)), .second, .unset, .unset] [(.long (own_key p2 p3)), (.ref a1)])) rfl (by rw [hml]; rfl) (Steps.refl _) (a := a1) (by rw [qk]; exact pv3) pv3' (argsL := [(.long (own_key p2 p3))]) (rest := []) (lenOf pd__J_I rfl) rfl (by show 2 * 0 + _ ≤ _; exact Nat.le_of_eq rfl) (hb hby d10_8) (fun _ _ => ⟨rfl, qk, (by decide : 0 + 0 ≤ _), (by decide : 0 + 0 ≤ _)⟩)
  dsimp only [Pt.U, Pt.locs, Pt.cells, Pt.slots] at X3 l3 y3 z3 st3 hQ3
  subst l3 y3 z3
  obtain ⟨rfl, N3q, qp⟩ := hQ3
  have N3 := Fr.app N2 N3q
  have k4 : ∀ t, Steps p.tables e below (T3.setTop (mkF m 13 #[.val (.ref a1), .val (.int p2), .val (.int p3), .val (.long (own_key p2 p3)), .second, .val (.int (own_pr KS (own_key p2 p3) 3 (own_h (own_key p2 p3)))), .unset] [])) t → Steps p.tables e below (s₁.setTop (entryFrame m #[(.ref a1), (.int p2), (.int p3)] 7)) t := fun t k => k0 t (by
    show Steps p.tables e below (s₁.setTop (mkF m 0 #[.val (.ref a1), .val (.int p2), .val (.int p3), .unset, .unset, .unset, .unset] [])) _
    refine XS.iloadN X0.here hx rfl (hb hby d10_0) rfl ?_
    show Steps p.tables e below (s₁.setTop (mkF m 1 #[.val (.ref a1), .val (.int p2), .val (.int p3), .unset, .unset, .unset, .unset] [(.int p2)])) _
    refine XS.iloadN X0.here hx rfl (hb hby d10_1) rfl ?_
    show Steps p.tables e below (s₁.setTop (mkF m 2 #[.val (.ref a1), .val (.int p2), .val (.int p3), .unset, .unset, .unset, .unset] [(.int p3), (.int p2)])) _
    refine st2 _ ?_
    show Steps p.tables e below (T2.setTop (mkF m 5 #[.val (.ref a1), .val (.int p2), .val (.int p3), .unset, .unset, .unset, .unset] [(.long (own_key p2 p3))])) _
    refine XS.lstoreN X2.here hx rfl (hb hby d10_5) rfl (l' := #[.val (.ref a1), .val (.int p2), .val (.int p3), .val (.long (own_key p2 p3)), .second, .unset, .unset]) rfl ?_
    show Steps p.tables e below (T2.setTop (mkF m 6 #[.val (.ref a1), .val (.int p2), .val (.int p3), .val (.long (own_key p2 p3)), .second, .unset, .unset] [])) _
    refine XS.aloadN X2.here hx rfl (hb hby d10_6) rfl rfl ?_
    show Steps p.tables e below (T2.setTop (mkF m 7 #[.val (.ref a1), .val (.int p2), .val (.int p3), .val (.long (own_key p2 p3)), .second, .unset, .unset] [(.ref a1)])) _
    refine XS.lloadN X2.here hx rfl (hb hby d10_7) rfl ?_
    show Steps p.tables e below (T2.setTop (mkF m 8 #[.val (.ref a1), .val (.int p2), .val (.int p3), .val (.long (own_key p2 p3)), .second, .unset, .unset] [(.long (own_key p2 p3)), (.ref a1)])) _
    refine st3.trans ?_
    show Steps p.tables e below (T3.setTop (mkF m 11 #[.val (.ref a1), .val (.int p2), .val (.int p3), .val (.long (own_key p2 p3)), .second, .unset, .unset] [(.int (own_pr KS (own_key p2 p3) 3 (own_h (own_key p2 p3))))])) _
    refine XS.istore X3.here hx rfl (hb hby d10_11) rfl (l' := #[.val (.ref a1), .val (.int p2), .val (.int p3), .val (.long (own_key p2 p3)), .second, .val (.int (own_pr KS (own_key p2 p3) 3 (own_h (own_key p2 p3)))), .unset]) rfl ?_
    exact k)
  obtain ⟨sl, hd_sl⟩ : ∃ z : Int32, z = (own_pr KS (own_key p2 p3) 3 (own_h (own_key p2 p3))) := ⟨_, rfl⟩
  have k5 : ∀ t, Steps p.tables e below (T3.setTop (mkF m 13 #[.val (.ref a1), .val (.int p2), .val (.int p3), .val (.long (own_key p2 p3)), .second, .val (.int sl), .unset] [])) t → Steps p.tables e below (s₁.setTop (entryFrame m #[(.ref a1), (.int p2), (.int p3)] 7)) t := by rw [hd_sl]; exact k4
  have rs : ¬ sl < 0 ∧ sl < (16 : Int32) := by rw [hd_sl]; exact own_pr_rg KS _ 3 _ (own_h_rg _)
  have ns : sl.toNatClampNeg < 16 := by
    have h0 := nat_of rs.1; have h1 := own_rg_to rs; omega
  obtain ⟨T6, X6, e6, st6⟩ := getF X3 hx hZ hown (host := "") (Or.inl (hw _ (List.mem_of_getElem? (i := 16) rfl))) Via.refl qp F1a (g := (mkF m 14 #[.val (.ref a1), .val (.int p2), .val (.int p3), .val (.long (own_key p2 p3)), .second, .val (.int sl), .unset] [(.ref a1)])) rfl rfl (hb hby d10_14)
  have k7 : ∀ t, Steps p.tables e below (T6.setTop (mkF m 24 #[.val (.ref a1), .val (.int p2), .val (.int p3), .val (.long (own_key p2 p3)), .second, .val (.int sl), .unset] [(.int (lcmpW (KS.getD sl.toNatClampNeg 0) (-1 : Int64)))])) t → Steps p.tables e below (s₁.setTop (entryFrame m #[(.ref a1), (.int p2), (.int p3)] 7)) t := fun t k => k5 t (by
    show Steps p.tables e below (T3.setTop (mkF m 13 #[.val (.ref a1), .val (.int p2), .val (.int p3), .val (.long (own_key p2 p3)), .second, .val (.int sl), .unset] [])) _
    refine XS.aloadN X3.here hx rfl (hb hby d10_13) rfl rfl ?_
    show Steps p.tables e below (T3.setTop (mkF m 14 #[.val (.ref a1), .val (.int p2), .val (.int p3), .val (.long (own_key p2 p3)), .second, .val (.int sl), .unset] [(.ref a1)])) _
    refine st6 _ ?_
    show Steps p.tables e below (T6.setTop (mkF m 17 #[.val (.ref a1), .val (.int p2), .val (.int p3), .val (.long (own_key p2 p3)), .second, .val (.int sl), .unset] [(.ref ak)])) _
    refine XS.iload X6.here hx rfl (hb hby d10_17) rfl ?_
    show Steps p.tables e below (T6.setTop (mkF m 19 #[.val (.ref a1), .val (.int p2), .val (.int p3), .val (.long (own_key p2 p3)), .second, .val (.int sl), .unset] [(.int sl), (.ref ak)])) _
    refine own_ldJ X6 hx hZ e6 V1k rs (g := (mkF m 19 #[.val (.ref a1), .val (.int p2), .val (.int p3), .val (.long (own_key p2 p3)), .second, .val (.int sl), .unset] [(.int sl), (.ref ak)])) rfl rfl (hb hby d10_19) _ ?_
    show Steps p.tables e below (T6.setTop (mkF m 20 #[.val (.ref a1), .val (.int p2), .val (.int p3), .val (.long (own_key p2 p3)), .second, .val (.int sl), .unset] [(.long (KS.getD sl.toNatClampNeg 0))])) _
    refine X6.ldc2Long hx hown (mvT hZ (hw _ (List.mem_of_getElem? (i := 18) rfl))) (g := (mkF m 20 #[.val (.ref a1), .val (.int p2), .val (.int p3), .val (.long (own_key p2 p3)), .second, .val (.int sl), .unset] [(.long (KS.getD sl.toNatClampNeg 0))])) rfl (hb hby d10_20) _ ?_
    show Steps p.tables e below (T6.setTop (mkF m 23 #[.val (.ref a1), .val (.int p2), .val (.int p3), .val (.long (own_key p2 p3)), .second, .val (.int sl), .unset] [(.long (-1 : Int64)), (.long (KS.getD sl.toNatClampNeg 0))])) _
    refine XS.lcmp X6.here hx rfl (hb hby d10_23) rfl ?_
    exact k)
  by_cases cd24 : (KS.getD sl.toNatClampNeg 0) = (-1 : Int64)
  ·
    have hv : own_addv nd KS CH (own_key p2 p3) = nd := by unfold own_addv; rw [← hd_sl]; exact if_pos cd24
    have hv1 : own_addn nd KS (own_key p2 p3) = nd + 1 := by unfold own_addn; rw [← hd_sl]; exact if_pos cd24
    have hv2 : own_addk KS (own_key p2 p3) = KS.set sl.toNatClampNeg (own_key p2 p3) := by unfold own_addk; rw [← hd_sl]; exact if_pos cd24
    have hv3 : own_addc nd KS CH (own_key p2 p3) = CH.set sl.toNatClampNeg nd := by unfold own_addc; rw [← hd_sl]; exact if_pos cd24
    obtain ⟨T8, X8, e8, st8⟩ := getF X6 hx hZ hown (host := "") (Or.inl (hw _ (List.mem_of_getElem? (i := 9) rfl))) Via.refl e6 F1d (g := (mkF m 36 #[.val (.ref a1), .val (.int p2), .val (.int p3), .val (.long (own_key p2 p3)), .second, .val (.int sl), .unset] [(.ref a1)])) rfl rfl (hb hby d10_36)
    obtain ⟨T9, X9, e9, st9⟩ := getF X8 hx hZ hown (host := "") (Or.inl (hw _ (List.mem_of_getElem? (i := 16) rfl))) Via.refl e8 F1a (g := (mkF m 42 #[.val (.ref a1), .val (.int p2), .val (.int p3), .val (.long (own_key p2 p3)), .second, .val (.int sl), .val (.int nd)] [(.ref a1)])) rfl rfl (hb hby d10_42)
    obtain ⟨T10, h10, X10, e10, W10, Vn10, st10⟩ := own_stJ X9 hx hZ e9 V1k (j := sl) rs (by rw [lK]; exact ns) (g := (mkF m 48 #[.val (.ref a1), .val (.int p2), .val (.int p3), .val (.long (own_key p2 p3)), .second, .val (.int sl), .val (.int nd)] [(.long (own_key p2 p3)), (.int sl), (.ref ak)])) rfl rfl (hb hby d10_48)
    have N10 := Fr.snoc X10 N3 g_ak
    have V11 : Arv Z h10 ak kk .long (16 : Int32) ((KS.set sl.toNatClampNeg (own_key p2 p3)).map Value.long) (.long 0) := Vn10
    have E12 : Exa Z h10 a1 "com/example/histories_to_cohorts/historiestocohorts/service/SetTrie" := E1.wr W10
    have F13 : Fld Z h10 a1 "com/example/histories_to_cohorts/historiestocohorts/service/SetTrie" "keys" "[J" (.ref ak) := F1a.other W10 (Or.inl n1)
    have F14 : Fld Z h10 a1 "com/example/histories_to_cohorts/historiestocohorts/service/SetTrie" "children" "[I" (.ref ac) := F1b.other W10 (Or.inl n1)
    have F15 : Fld Z h10 a1 "com/example/histories_to_cohorts/historiestocohorts/service/SetTrie" "counts" "[I" (.ref an) := F1c.other W10 (Or.inl n1)
    have F16 : Fld Z h10 a1 "com/example/histories_to_cohorts/historiestocohorts/service/SetTrie" "nodes" "I" (.int nd) := F1d.other W10 (Or.inl n1)
    have F17 : Fld Z h10 a1 "com/example/histories_to_cohorts/historiestocohorts/service/SetTrie" "shift" "I" (.int (60 : Int32)) := F1e.other W10 (Or.inl n1)
    have V18 : Arv Z h10 ac kc .int 16 (CH.map Value.int) (.int 0) := V1c.other W10 (Ne.symm n4)
    have V19 : Arv Z h10 an kn .int 16 (own_Z16.map Value.int) (.int 0) := V1n.other W10 (Ne.symm n5)
    have K20 : Keep h0 h10 [a1, ak, ac] := (Keep.refl h0 [a1, ak, ac]).wr W10 (Or.inl (List.mem_of_getElem? (i := 1) rfl))
    obtain ⟨T21, X21, e21, st21⟩ := getF X10 hx hZ hown (host := "") (Or.inl (hw _ (List.mem_of_getElem? (i := 24) rfl))) Via.refl e10 F14 (g := (mkF m 50 #[.val (.ref a1), .val (.int p2), .val (.int p3), .val (.long (own_key p2 p3)), .second, .val (.int sl), .val (.int nd)] [(.ref a1)])) rfl rfl (hb hby d10_50)
    obtain ⟨T22, h22, X22, e22, W22, Vn22, st22⟩ := own_stI X21 hx hZ e21 V18 (j := sl) rs (by rw [lC]; exact ns) (g := (mkF m 57 #[.val (.ref a1), .val (.int p2), .val (.int p3), .val (.long (own_key p2 p3)), .second, .val (.int sl), .val (.int nd)] [(.int nd), (.int sl), (.ref ac)])) rfl rfl (hb hby d10_57)
    have N22 := Fr.snoc X22 N10 g_ac
    have V23 : Arv Z h22 ac kc .int (16 : Int32) ((CH.set sl.toNatClampNeg nd).map Value.int) (.int 0) := Vn22
    have E24 : Exa Z h22 a1 "com/example/histories_to_cohorts/historiestocohorts/service/SetTrie" := E12.wr W22
    have F25 : Fld Z h22 a1 "com/example/histories_to_cohorts/historiestocohorts/service/SetTrie" "keys" "[J" (.ref ak) := F13.other W22 (Or.inl n2)
    have F26 : Fld Z h22 a1 "com/example/histories_to_cohorts/historiestocohorts/service/SetTrie" "children" "[I" (.ref ac) := F14.other W22 (Or.inl n2)
    have F27 : Fld Z h22 a1 "com/example/histories_to_cohorts/historiestocohorts/service/SetTrie" "counts" "[I" (.ref an) := F15.other W22 (Or.inl n2)
    have F28 : Fld Z h22 a1 "com/example/histories_to_cohorts/historiestocohorts/service/SetTrie" "nodes" "I" (.int nd) := F16.other W22 (Or.inl n2)
    have F29 : Fld Z h22 a1 "com/example/histories_to_cohorts/historiestocohorts/service/SetTrie" "shift" "I" (.int (60 : Int32)) := F17.other W22 (Or.inl n2)
    have V30 : Arv Z h22 ak kk .long (16 : Int32) ((KS.set sl.toNatClampNeg (own_key p2 p3)).map Value.long) (.long 0) := V11.other W22 n4
    have V31 : Arv Z h22 an kn .int 16 (own_Z16.map Value.int) (.int 0) := V19.other W22 (Ne.symm n6)
    have K32 : Keep h0 h22 [a1, ak, ac] := K20.wr W22 (Or.inl (List.mem_of_getElem? (i := 2) rfl))
    obtain ⟨T33, X33, e33, st33⟩ := getF X22 hx hZ hown (host := "") (Or.inl (hw _ (List.mem_of_getElem? (i := 9) rfl))) Via.refl e22 F28 (g := (mkF m 60 #[.val (.ref a1), .val (.int p2), .val (.int p3), .val (.long (own_key p2 p3)), .second, .val (.int sl), .val (.int nd)] [(.ref a1), (.ref a1)])) rfl rfl (hb hby d10_60)
    obtain ⟨T34, h34, X34, e34, W34, st34⟩ := putF X33 hx hZ hown (host := "") (Or.inl (hw _ (List.mem_of_getElem? (i := 9) rfl))) Via.refl e33 F28 E24 (Or.inl (hw _ (List.mem_of_getElem? (i := 10) rfl))) (hw _ (List.mem_of_getElem? (i := 1) rfl)) (ty := .int) (by decide) rfl rfl (g := (mkF m 65 #[.val (.ref a1), .val (.int p2), .val (.int p3), .val (.long (own_key p2 p3)), .second, .val (.int sl), .val (.int nd)] [(.int (nd + (1 : Int32))), (.ref a1)])) rfl rfl (hb hby d10_65)
    have N34 := Fr.snoc X34 N22 g_a1
    have F35 : Fld Z h34 a1 "com/example/histories_to_cohorts/historiestocohorts/service/SetTrie" "nodes" "I" (.int (nd + (1 : Int32))) := F28.same W34
    have E36 : Exa Z h34 a1 "com/example/histories_to_cohorts/historiestocohorts/service/SetTrie" := E24.wr W34
    have F37 : Fld Z h34 a1 "com/example/histories_to_cohorts/historiestocohorts/service/SetTrie" "keys" "[J" (.ref ak) := F25.other W34 (Or.inr (slot_ne (Or.inl (hw _ (List.mem_of_getElem? (i := 17) rfl))) (Or.inl (hw _ (List.mem_of_getElem? (i := 10) rfl))) (by decide) (t := (.array .long)) (t' := .int) (by decide) (by decide)))
    have F38 : Fld Z h34 a1 "com/example/histories_to_cohorts/historiestocohorts/service/SetTrie" "children" "[I" (.ref ac) := F26.other W34 (Or.inr (slot_ne (Or.inl (hw _ (List.mem_of_getElem? (i := 25) rfl))) (Or.inl (hw _ (List.mem_of_getElem? (i := 10) rfl))) (by decide) (t := (.array .int)) (t' := .int) (by decide) (by decide)))
    have F39 : Fld Z h34 a1 "com/example/histories_to_cohorts/historiestocohorts/service/SetTrie" "counts" "[I" (.ref an) := F27.other W34 (Or.inr (slot_ne (Or.inl (hw _ (List.mem_of_getElem? (i := 38) rfl))) (Or.inl (hw _ (List.mem_of_getElem? (i := 10) rfl))) (by decide) (t := (.array .int)) (t' := .int) (by decide) (by decide)))
    have F40 : Fld Z h34 a1 "com/example/histories_to_cohorts/historiestocohorts/service/SetTrie" "shift" "I" (.int (60 : Int32)) := F29.other W34 (Or.inr (slot_ne (Or.inl (hw _ (List.mem_of_getElem? (i := 36) rfl))) (Or.inl (hw _ (List.mem_of_getElem? (i := 10) rfl))) (by decide) (t := .int) (t' := .int) (by decide) (by decide)))
    have V41 : Arv Z h34 ak kk .long (16 : Int32) ((KS.set sl.toNatClampNeg (own_key p2 p3)).map Value.long) (.long 0) := V30.other W34 (Ne.symm n1)
    have V42 : Arv Z h34 ac kc .int (16 : Int32) ((CH.set sl.toNatClampNeg nd).map Value.int) (.int 0) := V23.other W34 (Ne.symm n2)
    have V43 : Arv Z h34 an kn .int 16 (own_Z16.map Value.int) (.int 0) := V31.other W34 (Ne.symm n3)
    have K44 : Keep h0 h34 [a1, ak, ac] := K32.wr W34 (Or.inl (List.mem_of_getElem? (i := 0) rfl))
    obtain ⟨T45, X45, e45, st45⟩ := getF X34 hx hZ hown (host := "") (Or.inl (hw _ (List.mem_of_getElem? (i := 9) rfl))) Via.refl e34 F35 (g := (mkF m 69 #[.val (.ref a1), .val (.int p2), .val (.int p3), .val (.long (own_key p2 p3)), .second, .val (.int sl), .val (.int nd)] [(.ref a1)])) rfl rfl (hb hby d10_69)
    obtain ⟨T46, X46, e46, st46⟩ := getF X45 hx hZ hown (host := "") (Or.inl (hw _ (List.mem_of_getElem? (i := 37) rfl))) Via.refl e45 F39 (g := (mkF m 73 #[.val (.ref a1), .val (.int p2), .val (.int p3), .val (.long (own_key p2 p3)), .second, .val (.int sl), .val (.int nd)] [(.ref a1), (.int (nd + (1 : Int32)))])) rfl rfl (hb hby d10_73)
    obtain ⟨T47, X47, e47, st47⟩ := getF X46 hx hZ hown (host := "") (Or.inl (hw _ (List.mem_of_getElem? (i := 9) rfl))) Via.refl e46 F35 (g := (mkF m 102 #[.val (.ref a1), .val (.int p2), .val (.int p3), .val (.long (own_key p2 p3)), .second, .val (.int sl), .val (.int nd)] [(.ref a1), (.long (4 : Int64))])) rfl rfl (hb hby d10_102)
    obtain ⟨T48, X48, e48, st48⟩ := getF X47 hx hZ hown (host := "") (Or.inl (hw _ (List.mem_of_getElem? (i := 16) rfl))) Via.refl e47 F37 (g := (mkF m 111 #[.val (.ref a1), .val (.int p2), .val (.int p3), .val (.long (own_key p2 p3)), .second, .val (.int sl), .val (.int nd)] [(.ref a1), (.long (3 : Int64)), (.long ((4 : Int64) * ((nd + (1 : Int32)).toInt64)))])) rfl rfl (hb hby d10_111)
    have k50 : ∀ t, Steps p.tables e below (T48.setTop (mkF m 127 #[.val (.ref a1), .val (.int p2), .val (.int p3), .val (.long (own_key p2 p3)), .second, .val (.int sl), .val (.int nd)] [(.int nd)])) t → Steps p.tables e below (s₁.setTop (entryFrame m #[(.ref a1), (.int p2), (.int p3)] 7)) t := fun t k => k7 t (by
      show Steps p.tables e below (T6.setTop (mkF m 24 #[.val (.ref a1), .val (.int p2), .val (.int p3), .val (.long (own_key p2 p3)), .second, .val (.int sl), .unset] [(.int (lcmpW (KS.getD sl.toNatClampNeg 0) (-1 : Int64)))])) _
      refine XS.ifYes X6.here hx rfl (pc0 := 24) (pc' := 35) rfl (hb hby d10_24) rfl ((if0 _ _).trans (teq ((lw_eq (KS.getD sl.toNatClampNeg 0) (-1 : Int64)).mpr cd24)).1) (by decide) (by decide) ?_
      show Steps p.tables e below (T6.setTop (mkF m 35 #[.val (.ref a1), .val (.int p2), .val (.int p3), .val (.long (own_key p2 p3)), .second, .val (.int sl), .unset] [])) _
      refine XS.aloadN X6.here hx rfl (hb hby d10_35) rfl rfl ?_
      show Steps p.tables e below (T6.setTop (mkF m 36 #[.val (.ref a1), .val (.int p2), .val (.int p3), .val (.long (own_key p2 p3)), .second, .val (.int sl), .unset] [(.ref a1)])) _
      refine st8 _ ?_
      show Steps p.tables e below (T8.setTop (mkF m 39 #[.val (.ref a1), .val (.int p2), .val (.int p3), .val (.long (own_key p2 p3)), .second, .val (.int sl), .unset] [(.int nd)])) _
      refine XS.istore X8.here hx rfl (hb hby d10_39) rfl (l' := #[.val (.ref a1), .val (.int p2), .val (.int p3), .val (.long (own_key p2 p3)), .second, .val (.int sl), .val (.int nd)]) rfl ?_
      show Steps p.tables e below (T8.setTop (mkF m 41 #[.val (.ref a1), .val (.int p2), .val (.int p3), .val (.long (own_key p2 p3)), .second, .val (.int sl), .val (.int nd)] [])) _
      refine XS.aloadN X8.here hx rfl (hb hby d10_41) rfl rfl ?_
      show Steps p.tables e below (T8.setTop (mkF m 42 #[.val (.ref a1), .val (.int p2), .val (.int p3), .val (.long (own_key p2 p3)), .second, .val (.int sl), .val (.int nd)] [(.ref a1)])) _
      refine st9 _ ?_
      show Steps p.tables e below (T9.setTop (mkF m 45 #[.val (.ref a1), .val (.int p2), .val (.int p3), .val (.long (own_key p2 p3)), .second, .val (.int sl), .val (.int nd)] [(.ref ak)])) _
      refine XS.iload X9.here hx rfl (hb hby d10_45) rfl ?_
      show Steps p.tables e below (T9.setTop (mkF m 47 #[.val (.ref a1), .val (.int p2), .val (.int p3), .val (.long (own_key p2 p3)), .second, .val (.int sl), .val (.int nd)] [(.int sl), (.ref ak)])) _
      refine XS.lloadN X9.here hx rfl (hb hby d10_47) rfl ?_
      show Steps p.tables e below (T9.setTop (mkF m 48 #[.val (.ref a1), .val (.int p2), .val (.int p3), .val (.long (own_key p2 p3)), .second, .val (.int sl), .val (.int nd)] [(.long (own_key p2 p3)), (.int sl), (.ref ak)])) _
      refine st10 _ ?_
      show Steps p.tables e below (T10.setTop (mkF m 49 #[.val (.ref a1), .val (.int p2), .val (.int p3), .val (.long (own_key p2 p3)), .second, .val (.int sl), .val (.int nd)] [])) _
      refine XS.aloadN X10.here hx rfl (hb hby d10_49) rfl rfl ?_
      show Steps p.tables e below (T10.setTop (mkF m 50 #[.val (.ref a1), .val (.int p2), .val (.int p3), .val (.long (own_key p2 p3)), .second, .val (.int sl), .val (.int nd)] [(.ref a1)])) _
      refine st21 _ ?_
      show Steps p.tables e below (T21.setTop (mkF m 53 #[.val (.ref a1), .val (.int p2), .val (.int p3), .val (.long (own_key p2 p3)), .second, .val (.int sl), .val (.int nd)] [(.ref ac)])) _
      refine XS.iload X21.here hx rfl (hb hby d10_53) rfl ?_
      show Steps p.tables e below (T21.setTop (mkF m 55 #[.val (.ref a1), .val (.int p2), .val (.int p3), .val (.long (own_key p2 p3)), .second, .val (.int sl), .val (.int nd)] [(.int sl), (.ref ac)])) _
      refine XS.iload X21.here hx rfl (hb hby d10_55) rfl ?_
      show Steps p.tables e below (T21.setTop (mkF m 57 #[.val (.ref a1), .val (.int p2), .val (.int p3), .val (.long (own_key p2 p3)), .second, .val (.int sl), .val (.int nd)] [(.int nd), (.int sl), (.ref ac)])) _
      refine st22 _ ?_
      show Steps p.tables e below (T22.setTop (mkF m 58 #[.val (.ref a1), .val (.int p2), .val (.int p3), .val (.long (own_key p2 p3)), .second, .val (.int sl), .val (.int nd)] [])) _
      refine XS.aloadN X22.here hx rfl (hb hby d10_58) rfl rfl ?_
      show Steps p.tables e below (T22.setTop (mkF m 59 #[.val (.ref a1), .val (.int p2), .val (.int p3), .val (.long (own_key p2 p3)), .second, .val (.int sl), .val (.int nd)] [(.ref a1)])) _
      refine XS.dup X22.here hx rfl (hb hby d10_59) rfl rfl ?_
      show Steps p.tables e below (T22.setTop (mkF m 60 #[.val (.ref a1), .val (.int p2), .val (.int p3), .val (.long (own_key p2 p3)), .second, .val (.int sl), .val (.int nd)] [(.ref a1), (.ref a1)])) _
      refine st33 _ ?_
      show Steps p.tables e below (T33.setTop (mkF m 63 #[.val (.ref a1), .val (.int p2), .val (.int p3), .val (.long (own_key p2 p3)), .second, .val (.int sl), .val (.int nd)] [(.int nd), (.ref a1)])) _
      refine XS.iconst X33.here hx rfl (hb hby d10_63) ?_
      show Steps p.tables e below (T33.setTop (mkF m 64 #[.val (.ref a1), .val (.int p2), .val (.int p3), .val (.long (own_key p2 p3)), .second, .val (.int sl), .val (.int nd)] [(.int (1 : Int32)), (.int nd), (.ref a1)])) _
      refine XS.iadd X33.here hx rfl (hb hby d10_64) rfl ?_
      show Steps p.tables e below (T33.setTop (mkF m 65 #[.val (.ref a1), .val (.int p2), .val (.int p3), .val (.long (own_key p2 p3)), .second, .val (.int sl), .val (.int nd)] [(.int (nd + (1 : Int32))), (.ref a1)])) _
      refine st34 _ ?_
      show Steps p.tables e below (T34.setTop (mkF m 68 #[.val (.ref a1), .val (.int p2), .val (.int p3), .val (.long (own_key p2 p3)), .second, .val (.int sl), .val (.int nd)] [])) _
      refine XS.aloadN X34.here hx rfl (hb hby d10_68) rfl rfl ?_
      show Steps p.tables e below (T34.setTop (mkF m 69 #[.val (.ref a1), .val (.int p2), .val (.int p3), .val (.long (own_key p2 p3)), .second, .val (.int sl), .val (.int nd)] [(.ref a1)])) _
      refine st45 _ ?_
      show Steps p.tables e below (T45.setTop (mkF m 72 #[.val (.ref a1), .val (.int p2), .val (.int p3), .val (.long (own_key p2 p3)), .second, .val (.int sl), .val (.int nd)] [(.int (nd + (1 : Int32)))])) _
      refine XS.aloadN X45.here hx rfl (hb hby d10_72) rfl rfl ?_
      show Steps p.tables e below (T45.setTop (mkF m 73 #[.val (.ref a1), .val (.int p2), .val (.int p3), .val (.long (own_key p2 p3)), .second, .val (.int sl), .val (.int nd)] [(.ref a1), (.int (nd + (1 : Int32)))])) _
      refine st46 _ ?_
      show Steps p.tables e below (T46.setTop (mkF m 76 #[.val (.ref a1), .val (.int p2), .val (.int p3), .val (.long (own_key p2 p3)), .second, .val (.int sl), .val (.int nd)] [(.ref an), (.int (nd + (1 : Int32)))])) _
      refine own_len X46 hx hZ e46 V43 (g := (mkF m 76 #[.val (.ref a1), .val (.int p2), .val (.int p3), .val (.long (own_key p2 p3)), .second, .val (.int sl), .val (.int nd)] [(.ref an), (.int (nd + (1 : Int32)))])) rfl rfl (hb hby d10_76) _ ?_
      show Steps p.tables e below (T46.setTop (mkF m 77 #[.val (.ref a1), .val (.int p2), .val (.int p3), .val (.long (own_key p2 p3)), .second, .val (.int sl), .val (.int nd)] [(.int (16 : Int32)), (.int (nd + (1 : Int32)))])) _
      refine XS.icmpYes X46.here hx rfl (pc0 := 77) (pc' := 98) rfl (hb hby d10_77) rfl (feq hn1).2 (by decide) (by decide) ?_
      show Steps p.tables e below (T46.setTop (mkF m 98 #[.val (.ref a1), .val (.int p2), .val (.int p3), .val (.long (own_key p2 p3)), .second, .val (.int sl), .val (.int nd)] [])) _
      refine X46.ldc2Long hx hown (mvT hZ (hw _ (List.mem_of_getElem? (i := 58) rfl))) (g := (mkF m 98 #[.val (.ref a1), .val (.int p2), .val (.int p3), .val (.long (own_key p2 p3)), .second, .val (.int sl), .val (.int nd)] [])) rfl (hb hby d10_98) _ ?_
      show Steps p.tables e below (T46.setTop (mkF m 101 #[.val (.ref a1), .val (.int p2), .val (.int p3), .val (.long (own_key p2 p3)), .second, .val (.int sl), .val (.int nd)] [(.long (4 : Int64))])) _
      refine XS.aloadN X46.here hx rfl (hb hby d10_101) rfl rfl ?_
      show Steps p.tables e below (T46.setTop (mkF m 102 #[.val (.ref a1), .val (.int p2), .val (.int p3), .val (.long (own_key p2 p3)), .second, .val (.int sl), .val (.int nd)] [(.ref a1), (.long (4 : Int64))])) _
      refine st47 _ ?_
      show Steps p.tables e below (T47.setTop (mkF m 105 #[.val (.ref a1), .val (.int p2), .val (.int p3), .val (.long (own_key p2 p3)), .second, .val (.int sl), .val (.int nd)] [(.int (nd + (1 : Int32))), (.long (4 : Int64))])) _
      refine XS.i2l X47.here hx rfl (hb hby d10_105) rfl ?_
      show Steps p.tables e below (T47.setTop (mkF m 106 #[.val (.ref a1), .val (.int p2), .val (.int p3), .val (.long (own_key p2 p3)), .second, .val (.int sl), .val (.int nd)] [(.long ((nd + (1 : Int32)).toInt64)), (.long (4 : Int64))])) _
      refine XS.lmul X47.here hx rfl (hb hby d10_106) rfl ?_
      show Steps p.tables e below (T47.setTop (mkF m 107 #[.val (.ref a1), .val (.int p2), .val (.int p3), .val (.long (own_key p2 p3)), .second, .val (.int sl), .val (.int nd)] [(.long ((4 : Int64) * ((nd + (1 : Int32)).toInt64)))])) _
      refine X47.ldc2Long hx hown (mvT hZ (hw _ (List.mem_of_getElem? (i := 59) rfl))) (g := (mkF m 107 #[.val (.ref a1), .val (.int p2), .val (.int p3), .val (.long (own_key p2 p3)), .second, .val (.int sl), .val (.int nd)] [(.long ((4 : Int64) * ((nd + (1 : Int32)).toInt64)))])) rfl (hb hby d10_107) _ ?_
      show Steps p.tables e below (T47.setTop (mkF m 110 #[.val (.ref a1), .val (.int p2), .val (.int p3), .val (.long (own_key p2 p3)), .second, .val (.int sl), .val (.int nd)] [(.long (3 : Int64)), (.long ((4 : Int64) * ((nd + (1 : Int32)).toInt64)))])) _
      refine XS.aloadN X47.here hx rfl (hb hby d10_110) rfl rfl ?_
      show Steps p.tables e below (T47.setTop (mkF m 111 #[.val (.ref a1), .val (.int p2), .val (.int p3), .val (.long (own_key p2 p3)), .second, .val (.int sl), .val (.int nd)] [(.ref a1), (.long (3 : Int64)), (.long ((4 : Int64) * ((nd + (1 : Int32)).toInt64)))])) _
      refine st48 _ ?_
      show Steps p.tables e below (T48.setTop (mkF m 114 #[.val (.ref a1), .val (.int p2), .val (.int p3), .val (.long (own_key p2 p3)), .second, .val (.int sl), .val (.int nd)] [(.ref ak), (.long (3 : Int64)), (.long ((4 : Int64) * ((nd + (1 : Int32)).toInt64)))])) _
      refine own_len X48 hx hZ e48 V41 (g := (mkF m 114 #[.val (.ref a1), .val (.int p2), .val (.int p3), .val (.long (own_key p2 p3)), .second, .val (.int sl), .val (.int nd)] [(.ref ak), (.long (3 : Int64)), (.long ((4 : Int64) * ((nd + (1 : Int32)).toInt64)))])) rfl rfl (hb hby d10_114) _ ?_
      show Steps p.tables e below (T48.setTop (mkF m 115 #[.val (.ref a1), .val (.int p2), .val (.int p3), .val (.long (own_key p2 p3)), .second, .val (.int sl), .val (.int nd)] [(.int (16 : Int32)), (.long (3 : Int64)), (.long ((4 : Int64) * ((nd + (1 : Int32)).toInt64)))])) _
      refine XS.i2l X48.here hx rfl (hb hby d10_115) rfl ?_
      show Steps p.tables e below (T48.setTop (mkF m 116 #[.val (.ref a1), .val (.int p2), .val (.int p3), .val (.long (own_key p2 p3)), .second, .val (.int sl), .val (.int nd)] [(.long ((16 : Int32).toInt64)), (.long (3 : Int64)), (.long ((4 : Int64) * ((nd + (1 : Int32)).toInt64)))])) _
      refine XS.lmul X48.here hx rfl (hb hby d10_116) rfl ?_
      show Steps p.tables e below (T48.setTop (mkF m 117 #[.val (.ref a1), .val (.int p2), .val (.int p3), .val (.long (own_key p2 p3)), .second, .val (.int sl), .val (.int nd)] [(.long ((3 : Int64) * ((16 : Int32).toInt64))), (.long ((4 : Int64) * ((nd + (1 : Int32)).toInt64)))])) _
      refine XS.lcmp X48.here hx rfl (hb hby d10_117) rfl ?_
      show Steps p.tables e below (T48.setTop (mkF m 118 #[.val (.ref a1), .val (.int p2), .val (.int p3), .val (.long (own_key p2 p3)), .second, .val (.int sl), .val (.int nd)] [(.int (lcmpW ((4 : Int64) * ((nd + (1 : Int32)).toInt64)) ((3 : Int64) * ((16 : Int32).toInt64))))])) _
      refine XS.ifYes X48.here hx rfl (pc0 := 118) (pc' := 125) rfl (hb hby d10_118) rfl ((if0 _ _).trans (flt (fun q => hn2 ((lw_gt ((4 : Int64) * ((nd + (1 : Int32)).toInt64)) ((3 : Int64) * ((16 : Int32).toInt64))).mp q))).2.2.2) (by decide) (by decide) ?_
      show Steps p.tables e below (T48.setTop (mkF m 125 #[.val (.ref a1), .val (.int p2), .val (.int p3), .val (.long (own_key p2 p3)), .second, .val (.int sl), .val (.int nd)] [])) _
      refine XS.iload X48.here hx rfl (hb hby d10_125) rfl ?_
      exact k)
    obtain ⟨fs, hr, hrun, hended, hW, hsame⟩ := X48.leave (v := some (.int nd)) (fun h => by rw [Bd.returns] at h; cases h) (BodyLoose.notSynchronized Bd)
    refine ⟨_, _, k50 _ ?_, hrun, hended, _, _, rfl, ?_, ⟨_, rfl⟩, hW, hsame.mono (by decide) (by decide)⟩
    · show Steps p.tables e below (T48.setTop (mkF m 127 #[.val (.ref a1), .val (.int p2), .val (.int p3), .val (.long (own_key p2 p3)), .second, .val (.int sl), .val (.int nd)] [(.int nd)])) _
      exact retI X48 hx Bd.returns (hb hby d10_127) hr
    ·
      show Qaddc _ a1 p2 p3 nd KS CH ak ac an kk kc kn h0 n0 _ T48.heap _
      rw [e48]
      exact ⟨by rw [hv], N34, K44, by rw [hv1, hv2, hv3]; exact ⟨E36, F37, F38, F39, F35, F40, V41, V42, V43⟩⟩
  ·
    have hv : own_addv nd KS CH (own_key p2 p3) = CH.getD sl.toNatClampNeg 0 := by unfold own_addv; rw [← hd_sl]; exact if_neg cd24
    have hv1 : own_addn nd KS (own_key p2 p3) = nd := by unfold own_addn; rw [← hd_sl]; exact if_neg cd24
    have hv2 : own_addk KS (own_key p2 p3) = KS := by unfold own_addk; rw [← hd_sl]; exact if_neg cd24
    have hv3 : own_addc nd KS CH (own_key p2 p3) = CH := by unfold own_addc; rw [← hd_sl]; exact if_neg cd24
    obtain ⟨T51, X51, e51, st51⟩ := getF X6 hx hZ hown (host := "") (Or.inl (hw _ (List.mem_of_getElem? (i := 24) rfl))) Via.refl e6 F1b (g := (mkF m 28 #[.val (.ref a1), .val (.int p2), .val (.int p3), .val (.long (own_key p2 p3)), .second, .val (.int sl), .unset] [(.ref a1)])) rfl rfl (hb hby d10_28)
    have k53 : ∀ t, Steps p.tables e below (T51.setTop (mkF m 34 #[.val (.ref a1), .val (.int p2), .val (.int p3), .val (.long (own_key p2 p3)), .second, .val (.int sl), .unset] [(.int (CH.getD sl.toNatClampNeg 0))])) t → Steps p.tables e below (s₁.setTop (entryFrame m #[(.ref a1), (.int p2), (.int p3)] 7)) t := fun t k => k7 t (by
      show Steps p.tables e below (T6.setTop (mkF m 24 #[.val (.ref a1), .val (.int p2), .val (.int p3), .val (.long (own_key p2 p3)), .second, .val (.int sl), .unset] [(.int (lcmpW (KS.getD sl.toNatClampNeg 0) (-1 : Int64)))])) _
      refine XS.ifNo X6.here hx rfl (hb hby d10_24) rfl ((if0 _ _).trans (feq (fun q => cd24 ((lw_eq (KS.getD sl.toNatClampNeg 0) (-1 : Int64)).mp q))).1) ?_
      show Steps p.tables e below (T6.setTop (mkF m 27 #[.val (.ref a1), .val (.int p2), .val (.int p3), .val (.long (own_key p2 p3)), .second, .val (.int sl), .unset] [])) _
      refine XS.aloadN X6.here hx rfl (hb hby d10_27) rfl rfl ?_
      show Steps p.tables e below (T6.setTop (mkF m 28 #[.val (.ref a1), .val (.int p2), .val (.int p3), .val (.long (own_key p2 p3)), .second, .val (.int sl), .unset] [(.ref a1)])) _
      refine st51 _ ?_
      show Steps p.tables e below (T51.setTop (mkF m 31 #[.val (.ref a1), .val (.int p2), .val (.int p3), .val (.long (own_key p2 p3)), .second, .val (.int sl), .unset] [(.ref ac)])) _
      refine XS.iload X51.here hx rfl (hb hby d10_31) rfl ?_
      show Steps p.tables e below (T51.setTop (mkF m 33 #[.val (.ref a1), .val (.int p2), .val (.int p3), .val (.long (own_key p2 p3)), .second, .val (.int sl), .unset] [(.int sl), (.ref ac)])) _
      refine own_ldI X51 hx hZ e51 V1c rs (g := (mkF m 33 #[.val (.ref a1), .val (.int p2), .val (.int p3), .val (.long (own_key p2 p3)), .second, .val (.int sl), .unset] [(.int sl), (.ref ac)])) rfl rfl (hb hby d10_33) _ ?_
      exact k)
    obtain ⟨fs, hr, hrun, hended, hW, hsame⟩ := X51.leave (v := some (.int (CH.getD sl.toNatClampNeg 0))) (fun h => by rw [Bd.returns] at h; cases h) (BodyLoose.notSynchronized Bd)
    refine ⟨_, _, k53 _ ?_, hrun, hended, _, _, rfl, ?_, ⟨_, rfl⟩, hW, hsame.mono (by decide) (by decide)⟩
    · show Steps p.tables e below (T51.setTop (mkF m 34 #[.val (.ref a1), .val (.int p2), .val (.int p3), .val (.long (own_key p2 p3)), .second, .val (.int sl), .unset] [(.int (CH.getD sl.toNatClampNeg 0))])) _
      exact retI X51 hx Bd.returns (hb hby d10_34) hr
    ·
      show Qaddc _ a1 p2 p3 nd KS CH ak ac an kk kc kn h0 n0 _ T51.heap _
      rw [e51]
      exact ⟨by rw [hv], N3, (Keep.refl h0 [a1, ak, ac]), by rw [hv1, hv2, hv3]; exact ⟨E1, F1a, F1b, F1c, F1d, F1e, V1k, V1c, V1n⟩⟩
theorem own_gs {α : Type} (L : List α) (i j : Nat) (x d : α) (h : j < L.length) : (L.set j x).getD i d = if i = j then x else L.getD i d := by
  simp only [List.getD_eq_getElem?_getD, List.getElem?_set]
  by_cases e : j = i
  · subst e; simp [h]
  · have e' : ¬ i = j := fun q => e q.symm
    simp [e, e']
theorem own_nat16 {i : Int32} (h : ¬ i < 0 ∧ i < (16 : Int32)) : i.toNatClampNeg < 16 := by
  have h0 := nat_of h.1; have h1 := own_rg_to h; omega
theorem own_gsI {α : Type} (L : List α) {i j : Int32} (x d : α) (hi : ¬ i < 0 ∧ i < (16 : Int32)) (hj : ¬ j < 0 ∧ j < (16 : Int32)) (hl : L.length = 16) : (L.set j.toNatClampNeg x).getD i.toNatClampNeg d = if i = j then x else L.getD i.toNatClampNeg d := by
  rw [own_gs _ _ _ _ _ (by rw [hl]; exact own_nat16 hj)]
  by_cases e : i = j
  · subst e; simp
  · have q : ¬ i.toNatClampNeg = j.toNatClampNeg := fun q => e (Int32.toInt_inj.mp (by rw [nat_of hi.1, nat_of hj.1, q]))
    rw [if_neg q, if_neg e]
theorem own_pr_end (KS : List Int64) (q : Int64) : ∀ (n : Nat) (i : Int32), own_fr KS n i → KS.getD (own_pr KS q n i).toNatClampNeg 0 = -1 ∨ KS.getD (own_pr KS q n i).toNatClampNeg 0 = q
  | 0, i, h => Or.inl h
  | n + 1, i, h => by
    by_cases c : KS.getD i.toNatClampNeg 0 = (-1 : Int64)
    · rw [own_pr_s, if_pos c]; exact Or.inl c
    · by_cases d : KS.getD i.toNatClampNeg 0 = q
      · rw [own_pr_s, if_neg c, if_pos d]; exact Or.inr d
      · rw [own_pr_s, if_neg c, if_neg d]; exact own_pr_end KS q n _ (h.resolve_left c)
theorem own_pr_found {KS : List Int64} {x y : Int64} {s : Int32} (hs : ¬ s < 0 ∧ s < (16 : Int32)) (hl : KS.length = 16) (h1 : KS.getD s.toNatClampNeg 0 = (-1 : Int64)) (hx : x ≠ -1) : ∀ (n : Nat) (i : Int32), (¬ i < 0 ∧ i < (16 : Int32)) → KS.getD (own_pr KS x n i).toNatClampNeg 0 = x → own_pr (KS.set s.toNatClampNeg y) x n i = own_pr KS x n i
  | 0, i, _, _ => rfl
  | n + 1, i, hi, h => by
    by_cases c : KS.getD i.toNatClampNeg 0 = (-1 : Int64)
    · rw [own_pr_s, if_pos c] at h; exact absurd (h.symm.trans c) hx
    · have ne : ¬ i = s := fun e => c (e ▸ h1)
      have e1 : (KS.set s.toNatClampNeg y).getD i.toNatClampNeg 0 = KS.getD i.toNatClampNeg 0 := by rw [own_gsI KS y 0 hi hs hl, if_neg ne]
      rw [own_pr_s (KS.set s.toNatClampNeg y), e1]
      rw [own_pr_s KS] at h ⊢
      by_cases d : KS.getD i.toNatClampNeg 0 = x
      · simp only [if_neg c, if_pos d]
      · simp only [if_neg c, if_neg d] at h ⊢
        exact own_pr_found hs hl h1 hx n _ (own_nx_rg i) h
theorem own_pr_ins {KS : List Int64} {q : Int64} (hl : KS.length = 16) (hq : q ≠ -1) : ∀ (n : Nat) (i s : Int32), (¬ i < 0 ∧ i < (16 : Int32)) → (¬ s < 0 ∧ s < (16 : Int32)) → s = own_pr KS q n i → KS.getD s.toNatClampNeg 0 = (-1 : Int64) → own_pr (KS.set s.toNatClampNeg q) q n i = s
  | 0, i, s, _, _, e, _ => e.symm
  | n + 1, i, s, hi, hs, e, h => by
    by_cases c : KS.getD i.toNatClampNeg 0 = (-1 : Int64)
    · rw [own_pr_s, if_pos c] at e
      subst e
      have e1 : (KS.set s.toNatClampNeg q).getD s.toNatClampNeg 0 = q := by rw [own_gsI KS q 0 hs hs hl, if_pos rfl]
      rw [own_pr_s, e1, if_neg hq, if_pos rfl]
    · by_cases d : KS.getD i.toNatClampNeg 0 = q
      · rw [own_pr_s, if_neg c, if_pos d] at e
        subst e; exact absurd h c
      · rw [own_pr_s, if_neg c, if_neg d] at e
        have ne : ¬ i = s := fun e' => c (e' ▸ h)
        have e1 : (KS.set s.toNatClampNeg q).getD i.toNatClampNeg 0 = KS.getD i.toNatClampNeg 0 := by rw [own_gsI KS q 0 hi hs hl, if_neg ne]
        rw [own_pr_s, e1, if_neg c, if_neg d]
        exact own_pr_ins hl hq n _ s (own_nx_rg i) hs e h
theorem own_fr3 {KS : List Int64} {a b c i : Int32} (hi : ¬ i < 0 ∧ i < (16 : Int32)) (ha : ¬ a < 0 ∧ a < (16 : Int32)) (hb : ¬ b < 0 ∧ b < (16 : Int32)) (hc : ¬ c < 0 ∧ c < (16 : Int32)) (H : ∀ j : Int32, (¬ j < 0 ∧ j < (16 : Int32)) → ¬ j = a → ¬ j = b → ¬ j = c → KS.getD j.toNatClampNeg 0 = (-1 : Int64)) : own_fr KS 3 i := by
  have v1 := own_nx_val hi
  have v2 := own_nx_val (own_nx_rg i)
  have v3 := own_nx_val (own_nx_rg (own_nx i))
  have t := own_rg_to hi
  have go : ∀ j : Int32, (¬ j < 0 ∧ j < (16 : Int32)) → (j.toInt ≠ a.toInt ∧ j.toInt ≠ b.toInt ∧ j.toInt ≠ c.toInt) → KS.getD j.toNatClampNeg 0 = (-1 : Int64) := fun j hj q => H j hj (fun e => q.1 (congrArg _ e)) (fun e => q.2.1 (congrArg _ e)) (fun e => q.2.2 (congrArg _ e))
  by_cases p0 : i.toInt ≠ a.toInt ∧ i.toInt ≠ b.toInt ∧ i.toInt ≠ c.toInt
  · exact Or.inl (go _ hi p0)
  refine Or.inr ?_
  by_cases p1 : (own_nx i).toInt ≠ a.toInt ∧ (own_nx i).toInt ≠ b.toInt ∧ (own_nx i).toInt ≠ c.toInt
  · exact Or.inl (go _ (own_nx_rg _) p1)
  refine Or.inr ?_
  by_cases p2 : (own_nx (own_nx i)).toInt ≠ a.toInt ∧ (own_nx (own_nx i)).toInt ≠ b.toInt ∧ (own_nx (own_nx i)).toInt ≠ c.toInt
  · exact Or.inl (go _ (own_nx_rg _) p2)
  refine Or.inr ?_
  refine go _ (own_nx_rg _) ?_
  omega
theorem own_m16 : ∀ n : Fin 16, own_M16.getD n.1 0 = (-1 : Int64) := by decide
theorem own_m16' {i : Int32} (h : ¬ i < 0 ∧ i < (16 : Int32)) : own_M16.getD i.toNatClampNeg 0 = (-1 : Int64) := own_m16 ⟨_, own_nat16 h⟩
/-- the three keys, one behind the other, and a look for a fourth -/
theorem own_trie {k1 k2 k3 kq : Int64} {K1 K2 K3 : List Int64} {C1 C2 C3 : List Int32} (h1 : k1 ≠ -1) (h2 : k2 ≠ -1) (h3 : k3 ≠ -1) (hq : kq ≠ -1) (h12 : k1 ≠ k2) (h32 : k3 ≠ k2)
    (hK1 : K1 = own_addk own_M16 k1) (hC1 : C1 = own_addc 1 own_M16 own_Z16 k1) (hK2 : K2 = own_addk K1 k2) (hC2 : C2 = own_addc 2 K1 C1 k2) (hK3 : K3 = own_addk K2 k3) (hC3 : C3 = own_addc 3 K2 C2 k3) :
    ((∀ x, own_fr own_M16 3 (own_h x)) ∧ (∀ x, own_child own_M16 own_Z16 x = -1) ∧ own_addv 1 own_M16 own_Z16 k1 = 1 ∧ own_addn 1 own_M16 k1 = 2) ∧
    ((∀ x, own_fr K1 3 (own_h x)) ∧ K1.length = 16 ∧ C1.length = 16 ∧ own_addv 2 K1 C1 k2 = 2 ∧ own_addn 2 K1 k2 = 3) ∧
    ((∀ x, own_fr K2 3 (own_h x)) ∧ K2.length = 16 ∧ C2.length = 16 ∧ own_addv 3 K2 C2 k3 = if k3 = k1 then 1 else 3) ∧
    ((∀ x, own_fr K3 3 (own_h x)) ∧ own_child K3 C3 kq = if kq = k1 then 1 else if kq = k3 then 3 else if kq = k2 then 2 else -1) := by
  have l0 : (own_M16).length = 16 := rfl
  have m0 : (own_Z16).length = 16 := rfl
  have f0 : ∀ x, own_fr own_M16 3 (own_h x) := fun x => Or.inl (own_m16' (own_h_rg x))
  generalize hr1 : own_pr own_M16 k1 3 (own_h k1) = r1
  have g1 : ¬ r1 < 0 ∧ r1 < (16 : Int32) := by rw [← hr1]; exact own_pr_rg _ _ _ _ (own_h_rg _)
  have e1 := own_m16' g1
  have eK1 : K1 = (own_M16).set r1.toNatClampNeg k1 := by rw [hK1]; unfold own_addk; rw [hr1, if_pos e1]
  have eC1 : C1 = (own_Z16).set r1.toNatClampNeg 1 := by rw [hC1]; unfold own_addc; rw [hr1, if_pos e1]
  have l1 : K1.length = 16 := by rw [eK1, List.length_set]; rfl
  have n1 : C1.length = 16 := by rw [eC1, List.length_set]; rfl
  have at1 : ∀ j : Int32, (¬ j < 0 ∧ j < (16 : Int32)) → K1.getD j.toNatClampNeg 0 = if j = r1 then k1 else -1 := fun j hj => by
    rw [eK1, own_gsI _ _ _ hj g1 l0, own_m16' hj]
  have f1 : ∀ x, own_fr K1 3 (own_h x) := fun x => own_fr3 (own_h_rg x) g1 g1 g1 (fun j hj a _ _ => by rw [at1 j hj, if_neg a])
  generalize hr2 : own_pr K1 k2 3 (own_h k2) = r2
  have g2 : ¬ r2 < 0 ∧ r2 < (16 : Int32) := by rw [← hr2]; exact own_pr_rg _ _ _ _ (own_h_rg _)
  have ne21 : ¬ r2 = r1 := fun e => by
    have q := own_pr_end K1 k2 3 _ (f1 k2)
    rw [hr2, at1 r2 g2, if_pos e] at q
    exact q.elim h1 h12
  have ne12 : ¬ r1 = r2 := fun e => ne21 e.symm
  have e2 : K1.getD r2.toNatClampNeg 0 = (-1 : Int64) := by rw [at1 r2 g2, if_neg ne21]
  have eK2 : K2 = K1.set r2.toNatClampNeg k2 := by rw [hK2]; unfold own_addk; rw [hr2, if_pos e2]
  have eC2 : C2 = C1.set r2.toNatClampNeg 2 := by rw [hC2]; unfold own_addc; rw [hr2, if_pos e2]
  have l2 : K2.length = 16 := by rw [eK2, List.length_set]; exact l1
  have n2 : C2.length = 16 := by rw [eC2, List.length_set]; exact n1
  have at2 : ∀ j : Int32, (¬ j < 0 ∧ j < (16 : Int32)) → K2.getD j.toNatClampNeg 0 = if j = r2 then k2 else if j = r1 then k1 else -1 := fun j hj => by
    rw [eK2, own_gsI _ _ _ hj g2 l1, at1 j hj]
  have f2 : ∀ x, own_fr K2 3 (own_h x) := fun x => own_fr3 (own_h_rg x) g1 g2 g2 (fun j hj a b _ => by rw [at2 j hj, if_neg b, if_neg a])
  have c2a : C2.getD r1.toNatClampNeg 0 = 1 := by rw [eC2, own_gsI _ _ _ g1 g2 n1, if_neg ne12, eC1, own_gsI _ _ _ g1 g1 m0, if_pos rfl]
  have c2b : C2.getD r2.toNatClampNeg 0 = 2 := by rw [eC2, own_gsI _ _ _ g2 g2 n1, if_pos rfl]
  -- where the first two keys are found
  have i1 : own_pr K1 k1 3 (own_h k1) = r1 := by rw [eK1]; exact own_pr_ins l0 h1 3 _ r1 (own_h_rg _) g1 hr1.symm e1
  have a11 : K1.getD (own_pr K1 k1 3 (own_h k1)).toNatClampNeg 0 = k1 := by rw [i1, at1 r1 g1, if_pos rfl]
  have i12 : own_pr K2 k1 3 (own_h k1) = r1 := by rw [eK2, own_pr_found g2 l1 e2 h1 3 _ (own_h_rg _) a11, i1]
  have i2 : own_pr K2 k2 3 (own_h k2) = r2 := by rw [eK2]; exact own_pr_ins l1 h2 3 _ r2 (own_h_rg _) g2 hr2.symm e2
  have a12 : K2.getD (own_pr K2 k1 3 (own_h k1)).toNatClampNeg 0 = k1 := by rw [i12, at2 r1 g1, if_neg ne12, if_pos rfl]
  have a22 : K2.getD (own_pr K2 k2 3 (own_h k2)).toNatClampNeg 0 = k2 := by rw [i2, at2 r2 g2, if_pos rfl]
  refine ⟨⟨f0, ?_, ?_, ?_⟩, ⟨f1, l1, n1, ?_, ?_⟩, ⟨f2, l2, n2, ?_⟩, ?_⟩
  · intro x; exact if_pos (own_m16' (own_pr_rg _ _ _ _ (own_h_rg _)))
  · unfold own_addv; rw [hr1, if_pos e1]
  · unfold own_addn; rw [hr1, if_pos e1]; rfl
  · unfold own_addv; rw [hr2, if_pos e2]
  · unfold own_addn; rw [hr2, if_pos e2]; rfl
  · by_cases e : k3 = k1
    · subst e; unfold own_addv; rw [a12, if_neg h1, i12, c2a, if_pos rfl]
    · rw [if_neg e]; unfold own_addv; refine if_pos ?_
      have g3 := own_pr_rg K2 k3 3 _ (own_h_rg k3)
      rcases own_pr_end K2 k3 3 _ (f2 k3) with q | q
      · exact q
      · rw [at2 _ g3] at q ⊢
        split at q
        · exact absurd q.symm h32
        · split at q
          · exact absurd q.symm e
          · exact absurd q.symm h3
  · by_cases e : k3 = k1
    · -- the third is the first: nothing is added
      subst e
      have eK3 : K3 = K2 := by rw [hK3]; unfold own_addk; rw [a12, if_neg h1]
      have eC3 : C3 = C2 := by rw [hC3]; unfold own_addc; rw [a12, if_neg h1]
      rw [eK3, eC3]
      refine ⟨f2, ?_⟩
      unfold own_child
      by_cases e' : kq = k3
      · subst e'; rw [a12, if_neg h1, if_pos rfl, i12, c2a]
      · rw [if_neg e', if_neg e']
        by_cases e'' : kq = k2
        · subst e''; rw [a22, if_neg h2, if_pos rfl, i2, c2b]
        · rw [if_neg e'']; refine if_pos ?_
          have g3 := own_pr_rg K2 kq 3 _ (own_h_rg kq)
          rcases own_pr_end K2 kq 3 _ (f2 kq) with q | q
          · exact q
          · rw [at2 _ g3] at q ⊢
            split at q
            · exact absurd q.symm e''
            · split at q
              · exact absurd q.symm e'
              · exact absurd q.symm hq
    · generalize hr3 : own_pr K2 k3 3 (own_h k3) = r3
      have g3 : ¬ r3 < 0 ∧ r3 < (16 : Int32) := by rw [← hr3]; exact own_pr_rg _ _ _ _ (own_h_rg _)
      have q3 := own_pr_end K2 k3 3 _ (f2 k3)
      rw [hr3, at2 r3 g3] at q3
      have ne32 : ¬ r3 = r2 := fun u => by
        rw [if_pos u] at q3; exact q3.elim h2 (fun w => h32 w.symm)
      have ne31 : ¬ r3 = r1 := fun u => by
        rw [if_neg ne32, if_pos u] at q3; exact q3.elim h1 (fun w => e w.symm)
      have ne13 : ¬ r1 = r3 := fun e => ne31 e.symm
      have ne23 : ¬ r2 = r3 := fun e => ne32 e.symm
      have e3 : K2.getD r3.toNatClampNeg 0 = (-1 : Int64) := by rw [at2 r3 g3, if_neg ne32, if_neg ne31]
      have eK3 : K3 = K2.set r3.toNatClampNeg k3 := by rw [hK3]; unfold own_addk; rw [hr3, if_pos e3]
      have eC3 : C3 = C2.set r3.toNatClampNeg 3 := by rw [hC3]; unfold own_addc; rw [hr3, if_pos e3]
      have at3 : ∀ j : Int32, (¬ j < 0 ∧ j < (16 : Int32)) → K3.getD j.toNatClampNeg 0 = if j = r3 then k3 else if j = r2 then k2 else if j = r1 then k1 else -1 := fun j hj => by
        rw [eK3, own_gsI _ _ _ hj g3 l2, at2 j hj]
      have f3 : ∀ x, own_fr K3 3 (own_h x) := fun x => own_fr3 (own_h_rg x) g1 g2 g3 (fun j hj a b c => by rw [at3 j hj, if_neg c, if_neg b, if_neg a])
      refine ⟨f3, ?_⟩
      unfold own_child
      by_cases e1' : kq = k1
      · subst e1'
        have w : own_pr K3 kq 3 (own_h kq) = r1 := by rw [eK3, own_pr_found g3 l2 e3 h1 3 _ (own_h_rg _) a12, i12]
        rw [w, at3 r1 g1, if_neg ne13, if_neg ne12, if_pos rfl, if_neg h1, if_pos rfl, eC3, own_gsI _ _ _ g1 g3 n2, if_neg ne13, c2a]
      · rw [if_neg e1']
        by_cases e3' : kq = k3
        · subst e3'
          have w : own_pr K3 kq 3 (own_h kq) = r3 := by rw [eK3]; exact own_pr_ins l2 h3 3 _ r3 (own_h_rg _) g3 hr3.symm e3
          rw [w, at3 r3 g3, if_pos rfl, if_neg h3, if_pos rfl, eC3, own_gsI _ _ _ g3 g3 n2, if_pos rfl]
        · rw [if_neg e3']
          by_cases e2' : kq = k2
          · subst e2'
            have w : own_pr K3 kq 3 (own_h kq) = r2 := by rw [eK3, own_pr_found g3 l2 e3 h2 3 _ (own_h_rg _) a22, i2]
            rw [w, at3 r2 g2, if_neg ne23, if_pos rfl, if_neg h2, if_pos rfl, eC3, own_gsI _ _ _ g2 g3 n2, if_neg ne23, c2b]
          · rw [if_neg e2']; refine if_pos ?_
            have g4 := own_pr_rg K3 kq 3 _ (own_h_rg kq)
            rcases own_pr_end K3 kq 3 _ (f3 kq) with q | q
            · exact q
            · rw [at3 _ g4] at q ⊢
              split at q
              · exact absurd q.symm e3'
              · split at q
                · exact absurd q.symm e2'
                · split at q
                  · exact absurd q.symm e1'
                  · exact absurd q.symm hq
theorem own_key_val (p c : Int32) (h0 : 0 ≤ p.toInt) (h1 : p.toInt < 8) : (own_key p c).toInt = p.toInt * 4294967296 + c.toInt % 4294967296 := by
  have a1 := c_lshl p.toInt64 32 32 (by decide)
  have a2 := c_maskL c.toInt64 4294967295 32 (by decide) (by decide)
  have e : ((2 ^ 32 : Nat) : Int) = 4294967296 := by decide
  rw [e, c_i2l] at a1 a2
  have r1 := rng64 (p.toInt64 <<< ((32 : Int32) &&& 0x3f).toInt64)
  have b1 : (p.toInt64 <<< ((32 : Int32) &&& 0x3f).toInt64).toInt = p.toInt * 4294967296 := by omega
  have a3 := c_orL (p.toInt64 <<< ((32 : Int32) &&& 0x3f).toInt64) (c.toInt64 &&& (4294967295 : Int64)) 32 (by decide) 4294967296 (by decide) (by omega) (by omega) (by omega)
  have r3 := rng64 (own_key p c)
  have a3' : ((own_key p c).toInt - ((p.toInt64 <<< ((32 : Int32) &&& 0x3f).toInt64).toInt + (c.toInt64 &&& (4294967295 : Int64)).toInt)) % 18446744073709551616 = 0 := a3
  omega
theorem own_key_ne (p c : Int32) (h0 : 0 ≤ p.toInt) (h1 : p.toInt < 8) : own_key p c ≠ -1 := fun e => by
  have v := own_key_val p c h0 h1
  have z : (-1 : Int64).toInt = -1 := by decide
  rw [e, z] at v; omega
theorem own_key_inj (p c p' c' : Int32) (h0 : 0 ≤ p.toInt) (h1 : p.toInt < 8) (h0' : 0 ≤ p'.toInt) (h1' : p'.toInt < 8) : own_key p c = own_key p' c' ↔ p = p' ∧ c = c' := by
  constructor
  · intro e
    have v := own_key_val p c h0 h1
    have v' := own_key_val p' c' h0' h1'
    rw [e, v'] at v
    have r := rng32 c
    have r' := rng32 c'
    exact ⟨Int32.toInt_inj.mp (by omega), Int32.toInt_inj.mp (by omega)⟩
  · rintro ⟨rfl, rfl⟩; rfl
theorem own_qp (s : Int32) : 0 ≤ ((((s.toUInt32 >>> ((2 : Int32) &&& 31).toUInt32).toInt32)) &&& (7 : Int32)).toInt ∧ ((((s.toUInt32 >>> ((2 : Int32) &&& 31).toUInt32).toInt32)) &&& (7 : Int32)).toInt < 8 := by
  have h := c_mask (((s.toUInt32 >>> ((2 : Int32) &&& 31).toUInt32).toInt32)) 7 3 (by decide) (by decide)
  have e : ((2 ^ 3 : Nat) : Int) = 8 := by decide
  rw [e] at h; omega
theorem pd___V : parseMethodDescriptor "()V" = some ⟨[], none⟩ := by decide +kernel
theorem pd__II_I : parseMethodDescriptor "(II)I" = some ⟨[.int, .int], some .int⟩ := by decide +kernel
theorem own_got {qp qc p1 p2 p3 : Int32} {kq k1 k2 k3 : Int64} (j1 : kq = k1 ↔ qp = 0 ∧ qc = p1) (j2 : kq = k2 ↔ qp = 1 ∧ qc = p2) (j3 : kq = k3 ↔ qp = 0 ∧ qc = p3) : (if kq = k1 then (1 : Int32) else if kq = k3 then 3 else if kq = k2 then 2 else -1) = (if qp = (0 : Int32) then (if qc = p1 then (1 : Int32) else (if qc = p3 then (3 : Int32) else (if qp = (1 : Int32) then (if qc = p2 then (2 : Int32) else (-1 : Int32)) else (-1 : Int32)))) else (if qp = (1 : Int32) then (if qc = p2 then (2 : Int32) else (-1 : Int32)) else (-1 : Int32))) := by
  simp only [j1, j2, j3]
  clear j1 j2 j3
  by_cases e1 : qp = 0 <;> by_cases e2 : qc = p1 <;> by_cases e3 : qc = p3 <;> by_cases e4 : qp = 1 <;> by_cases e5 : qc = p2 <;> simp_all
theorem pn_0 : plainName "com/example/histories_to_cohorts/historiestocohorts/service/SetTrieChildPinLaw" = true := by first | (simp [plainName, overriddenIn]; done) | decide +kernel
theorem ef_law (m : MethodId) (x0 : Int32) (x1 : Int32) (x2 : Int32) (x3 : Int32) (x4 : Int32) : entryFrame m #[(.int x0), (.int x1), (.int x2), (.int x3), (.int x4)] maxLocals = mkF m 0 #[.val (.int x0), .val (.int x1), .val (.int x2), .val (.int x3), .val (.int x4), .unset, .unset, .unset, .unset, .unset, .unset, .unset, .unset, .unset, .unset, .unset, .unset] [] := by first | (simp [entryFrame, mkF, argsToLocals, Value.category, maxLocals]; done) | rfl
def Qlaw (Z : State) (p1 : Int32) (p2 : Int32) (p3 : Int32) (p4 : Int32) (p5 : Int32) (h0 : Heap) (n0 : Nat) (v : Option Value) (h : Heap) (L : List Loc) : Prop := v = some (.int (1 : Int32)) ∧ Fr n0 L
set_option maxRecDepth 65536 in
set_option maxHeartbeats 40000000 in
theorem rm_law (l : Launch) (Z : State) (a0 : Array Value) (hw : ∀ d ∈ tables_1, d.before a0 Z = true) (ws : List Jvm.Cond) (p1 : Int32) (p2 : Int32) (p3 : Int32) (p4 : Int32) (p5 : Int32) (h0 : Heap) (n0 : Nat) (Z0 : n0 ≤ h0.size) :
    MetFree l x (head1 (Jvm.Cond.code x code maxLocals ret :: ws) room_1) (fun a U => a = #[(.int p1), (.int p2), (.int p3), (.int p4), (.int p5)] ∧ Z.Warmed39 U.vm ∧ U.heap = h0) (fun _ _ _ _ _ => True) (fun _ U o U' => ∃ v L, o = .returned v ∧ Qlaw Z p1 p2 p3 p4 p5 h0 n0 v U'.heap L ∧ FrameEnd U o U' L room_1.cells room_1.slots) := by
  refine MetFree.of_bodySF (plainFor_of_name pn_0) hisR ?_
  intro p e s m args below meth c s₁ Bd hml0 hP hK
  obtain ⟨rfl, hZ, hh⟩ := hP
  have hx := Bd.exec
  have hby := Bd.bytes
  have hml : c.maxLocals = 17 := hml0
  have hown : s.vm.findClass "com/example/histories_to_cohorts/historiestocohorts/service/SetTrieChildPinLaw" = some m.cls := findClass_of_methodNamed Bd.named
  have hnm := (name_of_methodNamed Bd.named Bd.method).1
  have X0 : Stand p l e room_1 s m #[(.int p1), (.int p2), (.int p3), (.int p4), (.int p5)] below meth c s₁ [] 0 0 := Stand.of_body Bd
  have e0 : s₁.heap = h0 := by rw [← hh, Bd.state]; rfl
  have N0 := Fr.nil n0
  have k0 : ∀ t, Steps p.tables e below (s₁.setTop (mkF m 0 #[.val (.int p1), .val (.int p2), .val (.int p3), .val (.int p4), .val (.int p5), .unset, .unset, .unset, .unset, .unset, .unset, .unset, .unset, .unset, .unset, .unset, .unset] [])) t → Steps p.tables e below (s₁.setTop (entryFrame m #[(.int p1), (.int p2), (.int p3), (.int p4), (.int p5)] maxLocals)) t := fun t k => castTop (ef_law m p1 p2 p3 p4 p5) k
  have k1 : ∀ t, Steps p.tables e below (s₁.setTop (mkF m 9 #[.val (.int p1), .val (.int p2), .val (.int p3), .val (.int p4), .val (.int p5), .val (.int (((p5.toUInt32 >>> ((2 : Int32) &&& 31).toUInt32).toInt32) &&& (7 : Int32))), .unset, .unset, .unset, .unset, .unset, .unset, .unset, .unset, .unset, .unset, .unset] [])) t → Steps p.tables e below (s₁.setTop (entryFrame m #[(.int p1), (.int p2), (.int p3), (.int p4), (.int p5)] maxLocals)) t := fun t k => k0 t (by
    show Steps p.tables e below (s₁.setTop (mkF m 0 #[.val (.int p1), .val (.int p2), .val (.int p3), .val (.int p4), .val (.int p5), .unset, .unset, .unset, .unset, .unset, .unset, .unset, .unset, .unset, .unset, .unset, .unset] [])) _
    refine XS.iload X0.here hx rfl (hb hby at_0) rfl ?_
    show Steps p.tables e below (s₁.setTop (mkF m 2 #[.val (.int p1), .val (.int p2), .val (.int p3), .val (.int p4), .val (.int p5), .unset, .unset, .unset, .unset, .unset, .unset, .unset, .unset, .unset, .unset, .unset, .unset] [(.int p5)])) _
    refine XS.iconst X0.here hx rfl (hb hby at_2) ?_
    show Steps p.tables e below (s₁.setTop (mkF m 3 #[.val (.int p1), .val (.int p2), .val (.int p3), .val (.int p4), .val (.int p5), .unset, .unset, .unset, .unset, .unset, .unset, .unset, .unset, .unset, .unset, .unset, .unset] [(.int (2 : Int32)), (.int p5)])) _
    refine XS.iushr X0.here hx rfl (hb hby at_3) rfl ?_
    show Steps p.tables e below (s₁.setTop (mkF m 4 #[.val (.int p1), .val (.int p2), .val (.int p3), .val (.int p4), .val (.int p5), .unset, .unset, .unset, .unset, .unset, .unset, .unset, .unset, .unset, .unset, .unset, .unset] [(.int ((p5.toUInt32 >>> ((2 : Int32) &&& 31).toUInt32).toInt32))])) _
    refine XS.bipush X0.here hx rfl (hb hby at_4) ?_
    show Steps p.tables e below (s₁.setTop (mkF m 6 #[.val (.int p1), .val (.int p2), .val (.int p3), .val (.int p4), .val (.int p5), .unset, .unset, .unset, .unset, .unset, .unset, .unset, .unset, .unset, .unset, .unset, .unset] [(.int (7 : Int32)), (.int ((p5.toUInt32 >>> ((2 : Int32) &&& 31).toUInt32).toInt32))])) _
    refine XS.iand X0.here hx rfl (hb hby at_6) rfl ?_
    show Steps p.tables e below (s₁.setTop (mkF m 7 #[.val (.int p1), .val (.int p2), .val (.int p3), .val (.int p4), .val (.int p5), .unset, .unset, .unset, .unset, .unset, .unset, .unset, .unset, .unset, .unset, .unset, .unset] [(.int (((p5.toUInt32 >>> ((2 : Int32) &&& 31).toUInt32).toInt32) &&& (7 : Int32)))])) _
    refine XS.istore X0.here hx rfl (hb hby at_7) rfl (l' := #[.val (.int p1), .val (.int p2), .val (.int p3), .val (.int p4), .val (.int p5), .val (.int (((p5.toUInt32 >>> ((2 : Int32) &&& 31).toUInt32).toInt32) &&& (7 : Int32))), .unset, .unset, .unset, .unset, .unset, .unset, .unset, .unset, .unset, .unset, .unset]) rfl ?_
    exact k)
  obtain ⟨qp, hd_qp⟩ : ∃ z : Int32, z = (((p5.toUInt32 >>> ((2 : Int32) &&& 31).toUInt32).toInt32) &&& (7 : Int32)) := ⟨_, rfl⟩
  have k2 : ∀ t, Steps p.tables e below (s₁.setTop (mkF m 9 #[.val (.int p1), .val (.int p2), .val (.int p3), .val (.int p4), .val (.int p5), .val (.int qp), .unset, .unset, .unset, .unset, .unset, .unset, .unset, .unset, .unset, .unset, .unset] [])) t → Steps p.tables e below (s₁.setTop (entryFrame m #[(.int p1), (.int p2), (.int p3), (.int p4), (.int p5)] maxLocals)) t := by rw [hd_qp]; exact k1
  have qp0 : 0 ≤ qp.toInt ∧ qp.toInt < 8 := by rw [hd_qp]; exact own_qp p5
  have k3 : ∀ t, Steps p.tables e below (s₁.setTop (mkF m 15 #[.val (.int p1), .val (.int p2), .val (.int p3), .val (.int p4), .val (.int p5), .val (.int qp), .val (.int (p5 &&& (3 : Int32))), .unset, .unset, .unset, .unset, .unset, .unset, .unset, .unset, .unset, .unset] [])) t → Steps p.tables e below (s₁.setTop (entryFrame m #[(.int p1), (.int p2), (.int p3), (.int p4), (.int p5)] maxLocals)) t := fun t k => k2 t (by
    show Steps p.tables e below (s₁.setTop (mkF m 9 #[.val (.int p1), .val (.int p2), .val (.int p3), .val (.int p4), .val (.int p5), .val (.int qp), .unset, .unset, .unset, .unset, .unset, .unset, .unset, .unset, .unset, .unset, .unset] [])) _
    refine XS.iload X0.here hx rfl (hb hby at_9) rfl ?_
    show Steps p.tables e below (s₁.setTop (mkF m 11 #[.val (.int p1), .val (.int p2), .val (.int p3), .val (.int p4), .val (.int p5), .val (.int qp), .unset, .unset, .unset, .unset, .unset, .unset, .unset, .unset, .unset, .unset, .unset] [(.int p5)])) _
    refine XS.iconst X0.here hx rfl (hb hby at_11) ?_
    show Steps p.tables e below (s₁.setTop (mkF m 12 #[.val (.int p1), .val (.int p2), .val (.int p3), .val (.int p4), .val (.int p5), .val (.int qp), .unset, .unset, .unset, .unset, .unset, .unset, .unset, .unset, .unset, .unset, .unset] [(.int (3 : Int32)), (.int p5)])) _
    refine XS.iand X0.here hx rfl (hb hby at_12) rfl ?_
    show Steps p.tables e below (s₁.setTop (mkF m 13 #[.val (.int p1), .val (.int p2), .val (.int p3), .val (.int p4), .val (.int p5), .val (.int qp), .unset, .unset, .unset, .unset, .unset, .unset, .unset, .unset, .unset, .unset, .unset] [(.int (p5 &&& (3 : Int32)))])) _
    refine XS.istore X0.here hx rfl (hb hby at_13) rfl (l' := #[.val (.int p1), .val (.int p2), .val (.int p3), .val (.int p4), .val (.int p5), .val (.int qp), .val (.int (p5 &&& (3 : Int32))), .unset, .unset, .unset, .unset, .unset, .unset, .unset, .unset, .unset, .unset]) rfl ?_
    exact k)
  obtain ⟨sel, hd_sel⟩ : ∃ z : Int32, z = (p5 &&& (3 : Int32)) := ⟨_, rfl⟩
  have k4 : ∀ t, Steps p.tables e below (s₁.setTop (mkF m 15 #[.val (.int p1), .val (.int p2), .val (.int p3), .val (.int p4), .val (.int p5), .val (.int qp), .val (.int sel), .unset, .unset, .unset, .unset, .unset, .unset, .unset, .unset, .unset, .unset] [])) t → Steps p.tables e below (s₁.setTop (entryFrame m #[(.int p1), (.int p2), (.int p3), (.int p4), (.int p5)] maxLocals)) t := by rw [hd_sel]; exact k3
  obtain ⟨qc, hd_qc⟩ : ∃ z : Int32, z = (if sel = (0 : Int32) then p1 else (if sel = (1 : Int32) then p2 else (if sel = (2 : Int32) then p3 else p4))) := ⟨_, rfl⟩
  have k5 : ∀ t, Steps p.tables e below (s₁.setTop (mkF m 53 #[.val (.int p1), .val (.int p2), .val (.int p3), .val (.int p4), .val (.int p5), .val (.int qp), .val (.int sel), .val (.int qc), .unset, .unset, .unset, .unset, .unset, .unset, .unset, .unset, .unset] [])) t → Steps p.tables e below (s₁.setTop (entryFrame m #[(.int p1), (.int p2), (.int p3), (.int p4), (.int p5)] maxLocals)) t := fun t k => k4 t (by
    show Steps p.tables e below (s₁.setTop (mkF m 15 #[.val (.int p1), .val (.int p2), .val (.int p3), .val (.int p4), .val (.int p5), .val (.int qp), .val (.int sel), .unset, .unset, .unset, .unset, .unset, .unset, .unset, .unset, .unset, .unset] [])) _
    refine XS.iload X0.here hx rfl (hb hby at_15) rfl ?_
    by_cases c17 : sel = (0 : Int32)
    ·
      show Steps p.tables e below (s₁.setTop (mkF m 17 #[.val (.int p1), .val (.int p2), .val (.int p3), .val (.int p4), .val (.int p5), .val (.int qp), .val (.int sel), .unset, .unset, .unset, .unset, .unset, .unset, .unset, .unset, .unset, .unset] [(.int sel)])) _
      refine XS.ifNo X0.here hx rfl (hb hby at_17) rfl ((if0 _ _).trans (teq c17).2) ?_
      show Steps p.tables e below (s₁.setTop (mkF m 20 #[.val (.int p1), .val (.int p2), .val (.int p3), .val (.int p4), .val (.int p5), .val (.int qp), .val (.int sel), .unset, .unset, .unset, .unset, .unset, .unset, .unset, .unset, .unset, .unset] [])) _
      refine XS.iloadN X0.here hx rfl (hb hby at_20) rfl ?_
      show Steps p.tables e below (s₁.setTop (mkF m 21 #[.val (.int p1), .val (.int p2), .val (.int p3), .val (.int p4), .val (.int p5), .val (.int qp), .val (.int sel), .unset, .unset, .unset, .unset, .unset, .unset, .unset, .unset, .unset, .unset] [(.int p1)])) _
      refine XS.istore X0.here hx rfl (hb hby at_21) rfl (l' := #[.val (.int p1), .val (.int p2), .val (.int p3), .val (.int p4), .val (.int p5), .val (.int qp), .val (.int sel), .val (.int p1), .unset, .unset, .unset, .unset, .unset, .unset, .unset, .unset, .unset]) rfl ?_
      show Steps p.tables e below (s₁.setTop (mkF m 23 #[.val (.int p1), .val (.int p2), .val (.int p3), .val (.int p4), .val (.int p5), .val (.int qp), .val (.int sel), .val (.int p1), .unset, .unset, .unset, .unset, .unset, .unset, .unset, .unset, .unset] [])) _
      refine XS.goto X0.here hx rfl (pc0 := 23) (pc' := 53) rfl (hb hby at_23) (by decide) (by decide) ?_
      simp only [if_pos c17] at hd_qc
      rw [hd_qc] at k
      exact k
    ·
      show Steps p.tables e below (s₁.setTop (mkF m 17 #[.val (.int p1), .val (.int p2), .val (.int p3), .val (.int p4), .val (.int p5), .val (.int qp), .val (.int sel), .unset, .unset, .unset, .unset, .unset, .unset, .unset, .unset, .unset, .unset] [(.int sel)])) _
      refine XS.ifYes X0.here hx rfl (pc0 := 17) (pc' := 26) rfl (hb hby at_17) rfl ((if0 _ _).trans (feq c17).2) (by decide) (by decide) ?_
      show Steps p.tables e below (s₁.setTop (mkF m 26 #[.val (.int p1), .val (.int p2), .val (.int p3), .val (.int p4), .val (.int p5), .val (.int qp), .val (.int sel), .unset, .unset, .unset, .unset, .unset, .unset, .unset, .unset, .unset, .unset] [])) _
      refine XS.iload X0.here hx rfl (hb hby at_26) rfl ?_
      show Steps p.tables e below (s₁.setTop (mkF m 28 #[.val (.int p1), .val (.int p2), .val (.int p3), .val (.int p4), .val (.int p5), .val (.int qp), .val (.int sel), .unset, .unset, .unset, .unset, .unset, .unset, .unset, .unset, .unset, .unset] [(.int sel)])) _
      refine XS.iconst X0.here hx rfl (hb hby at_28) ?_
      by_cases c29 : sel = (1 : Int32)
      ·
        show Steps p.tables e below (s₁.setTop (mkF m 29 #[.val (.int p1), .val (.int p2), .val (.int p3), .val (.int p4), .val (.int p5), .val (.int qp), .val (.int sel), .unset, .unset, .unset, .unset, .unset, .unset, .unset, .unset, .unset, .unset] [(.int (1 : Int32)), (.int sel)])) _
        refine XS.icmpNo X0.here hx rfl (hb hby at_29) rfl (teq c29).2 ?_
        show Steps p.tables e below (s₁.setTop (mkF m 32 #[.val (.int p1), .val (.int p2), .val (.int p3), .val (.int p4), .val (.int p5), .val (.int qp), .val (.int sel), .unset, .unset, .unset, .unset, .unset, .unset, .unset, .unset, .unset, .unset] [])) _
        refine XS.iloadN X0.here hx rfl (hb hby at_32) rfl ?_
        show Steps p.tables e below (s₁.setTop (mkF m 33 #[.val (.int p1), .val (.int p2), .val (.int p3), .val (.int p4), .val (.int p5), .val (.int qp), .val (.int sel), .unset, .unset, .unset, .unset, .unset, .unset, .unset, .unset, .unset, .unset] [(.int p2)])) _
        refine XS.istore X0.here hx rfl (hb hby at_33) rfl (l' := #[.val (.int p1), .val (.int p2), .val (.int p3), .val (.int p4), .val (.int p5), .val (.int qp), .val (.int sel), .val (.int p2), .unset, .unset, .unset, .unset, .unset, .unset, .unset, .unset, .unset]) rfl ?_
        show Steps p.tables e below (s₁.setTop (mkF m 35 #[.val (.int p1), .val (.int p2), .val (.int p3), .val (.int p4), .val (.int p5), .val (.int qp), .val (.int sel), .val (.int p2), .unset, .unset, .unset, .unset, .unset, .unset, .unset, .unset, .unset] [])) _
        refine XS.goto X0.here hx rfl (pc0 := 35) (pc' := 53) rfl (hb hby at_35) (by decide) (by decide) ?_
        simp only [if_neg c17, if_pos c29] at hd_qc
        rw [hd_qc] at k
        exact k
      ·
        show Steps p.tables e below (s₁.setTop (mkF m 29 #[.val (.int p1), .val (.int p2), .val (.int p3), .val (.int p4), .val (.int p5), .val (.int qp), .val (.int sel), .unset, .unset, .unset, .unset, .unset, .unset, .unset, .unset, .unset, .unset] [(.int (1 : Int32)), (.int sel)])) _
        refine XS.icmpYes X0.here hx rfl (pc0 := 29) (pc' := 38) rfl (hb hby at_29) rfl (feq c29).2 (by decide) (by decide) ?_
        show Steps p.tables e below (s₁.setTop (mkF m 38 #[.val (.int p1), .val (.int p2), .val (.int p3), .val (.int p4), .val (.int p5), .val (.int qp), .val (.int sel), .unset, .unset, .unset, .unset, .unset, .unset, .unset, .unset, .unset, .unset] [])) _
        refine XS.iload X0.here hx rfl (hb hby at_38) rfl ?_
        show Steps p.tables e below (s₁.setTop (mkF m 40 #[.val (.int p1), .val (.int p2), .val (.int p3), .val (.int p4), .val (.int p5), .val (.int qp), .val (.int sel), .unset, .unset, .unset, .unset, .unset, .unset, .unset, .unset, .unset, .unset] [(.int sel)])) _
        refine XS.iconst X0.here hx rfl (hb hby at_40) ?_
        by_cases c41 : sel = (2 : Int32)
        ·
          show Steps p.tables e below (s₁.setTop (mkF m 41 #[.val (.int p1), .val (.int p2), .val (.int p3), .val (.int p4), .val (.int p5), .val (.int qp), .val (.int sel), .unset, .unset, .unset, .unset, .unset, .unset, .unset, .unset, .unset, .unset] [(.int (2 : Int32)), (.int sel)])) _
          refine XS.icmpNo X0.here hx rfl (hb hby at_41) rfl (teq c41).2 ?_
          show Steps p.tables e below (s₁.setTop (mkF m 44 #[.val (.int p1), .val (.int p2), .val (.int p3), .val (.int p4), .val (.int p5), .val (.int qp), .val (.int sel), .unset, .unset, .unset, .unset, .unset, .unset, .unset, .unset, .unset, .unset] [])) _
          refine XS.iloadN X0.here hx rfl (hb hby at_44) rfl ?_
          show Steps p.tables e below (s₁.setTop (mkF m 45 #[.val (.int p1), .val (.int p2), .val (.int p3), .val (.int p4), .val (.int p5), .val (.int qp), .val (.int sel), .unset, .unset, .unset, .unset, .unset, .unset, .unset, .unset, .unset, .unset] [(.int p3)])) _
          refine XS.istore X0.here hx rfl (hb hby at_45) rfl (l' := #[.val (.int p1), .val (.int p2), .val (.int p3), .val (.int p4), .val (.int p5), .val (.int qp), .val (.int sel), .val (.int p3), .unset, .unset, .unset, .unset, .unset, .unset, .unset, .unset, .unset]) rfl ?_
          show Steps p.tables e below (s₁.setTop (mkF m 47 #[.val (.int p1), .val (.int p2), .val (.int p3), .val (.int p4), .val (.int p5), .val (.int qp), .val (.int sel), .val (.int p3), .unset, .unset, .unset, .unset, .unset, .unset, .unset, .unset, .unset] [])) _
          refine XS.goto X0.here hx rfl (pc0 := 47) (pc' := 53) rfl (hb hby at_47) (by decide) (by decide) ?_
          simp only [if_neg c17, if_neg c29, if_pos c41] at hd_qc
          rw [hd_qc] at k
          exact k
        ·
          show Steps p.tables e below (s₁.setTop (mkF m 41 #[.val (.int p1), .val (.int p2), .val (.int p3), .val (.int p4), .val (.int p5), .val (.int qp), .val (.int sel), .unset, .unset, .unset, .unset, .unset, .unset, .unset, .unset, .unset, .unset] [(.int (2 : Int32)), (.int sel)])) _
          refine XS.icmpYes X0.here hx rfl (pc0 := 41) (pc' := 50) rfl (hb hby at_41) rfl (feq c41).2 (by decide) (by decide) ?_
          show Steps p.tables e below (s₁.setTop (mkF m 50 #[.val (.int p1), .val (.int p2), .val (.int p3), .val (.int p4), .val (.int p5), .val (.int qp), .val (.int sel), .unset, .unset, .unset, .unset, .unset, .unset, .unset, .unset, .unset, .unset] [])) _
          refine XS.iloadN X0.here hx rfl (hb hby at_50) rfl ?_
          show Steps p.tables e below (s₁.setTop (mkF m 51 #[.val (.int p1), .val (.int p2), .val (.int p3), .val (.int p4), .val (.int p5), .val (.int qp), .val (.int sel), .unset, .unset, .unset, .unset, .unset, .unset, .unset, .unset, .unset, .unset] [(.int p4)])) _
          refine XS.istore X0.here hx rfl (hb hby at_51) rfl (l' := #[.val (.int p1), .val (.int p2), .val (.int p3), .val (.int p4), .val (.int p5), .val (.int qp), .val (.int sel), .val (.int p4), .unset, .unset, .unset, .unset, .unset, .unset, .unset, .unset, .unset]) rfl ?_
          simp only [if_neg c17, if_neg c29, if_neg c41] at hd_qc
          rw [hd_qc] at k
          exact k)
  obtain ⟨KA, hKA⟩ : ∃ z : List Int64, z = own_addk own_M16 (own_key (0 : Int32) p1) := ⟨_, rfl⟩
  obtain ⟨CA, hCA⟩ : ∃ z : List Int32, z = own_addc 1 own_M16 own_Z16 (own_key (0 : Int32) p1) := ⟨_, rfl⟩
  obtain ⟨KB, hKB⟩ : ∃ z : List Int64, z = own_addk KA (own_key (1 : Int32) p2) := ⟨_, rfl⟩
  obtain ⟨CB, hCB⟩ : ∃ z : List Int32, z = own_addc 2 KA CA (own_key (1 : Int32) p2) := ⟨_, rfl⟩
  obtain ⟨KC, hKC⟩ : ∃ z : List Int64, z = own_addk KB (own_key (0 : Int32) p3) := ⟨_, rfl⟩
  obtain ⟨CC, hCC⟩ : ∃ z : List Int32, z = own_addc 3 KB CB (own_key (0 : Int32) p3) := ⟨_, rfl⟩
  have o0 : 0 ≤ (0 : Int32).toInt := by decide
  have o1 : (0 : Int32).toInt < 8 := by decide
  have o2 : 0 ≤ (1 : Int32).toInt := by decide
  have o3 : (1 : Int32).toInt < 8 := by decide
  have d12 : (own_key (0 : Int32) p1) ≠ (own_key (1 : Int32) p2) := fun e => absurd ((own_key_inj _ _ _ _ o0 o1 o2 o3).mp e).1 (by decide)
  have d32 : (own_key (0 : Int32) p3) ≠ (own_key (1 : Int32) p2) := fun e => absurd ((own_key_inj _ _ _ _ o0 o1 o2 o3).mp e).1 (by decide)
  obtain ⟨⟨t1, t2, t3, t4⟩, ⟨t5, t6, t7, t8, t9⟩, ⟨t10, t11, t12, t13⟩, ⟨t14, t15⟩⟩ := own_trie (own_key_ne _ _ o0 o1) (own_key_ne _ _ o2 o3) (own_key_ne _ _ o0 o1) (own_key_ne qp qc qp0.1 qp0.2) d12 d32 hKA hCA hKB hCB hKC hCC
  obtain ⟨T6, h6, X6, e6, Ex6, A6, D6, -, st6⟩ := newO X0 hx hZ hown (hw _ (List.mem_of_getElem? (i := 0) rfl)) (hw _ (List.mem_of_getElem? (i := 1) rfl)) (hw _ (List.mem_of_getElem? (i := 2) rfl)) e0 (g := (mkF m 53 #[.val (.int p1), .val (.int p2), .val (.int p3), .val (.int p4), .val (.int p5), .val (.int qp), .val (.int sel), .val (.int qc), .unset, .unset, .unset, .unset, .unset, .unset, .unset, .unset, .unset] [])) rfl (hb hby at_53) (by decide) (by decide)
  obtain ⟨b6, g6⟩ : ∃ z, z = h0.size := ⟨_, rfl⟩
  rw [← g6] at A6 D6 st6
  have sz_b6 : h0.size ≤ b6 := Nat.le_trans (Keep.refl h0 []).1 (Nat.le_of_eq g6.symm)
  have g_b6 : n0 ≤ b6 := Nat.le_trans Z0 sz_b6
  have E7 : Exa Z h6 b6 "com/example/histories_to_cohorts/historiestocohorts/service/SetTrie" := A6
  have F8 : Fld Z h6 b6 "com/example/histories_to_cohorts/historiestocohorts/service/SetTrie" "nodes" "I" (.int (0 : Int32)) := D6 (Or.inl (hw _ (List.mem_of_getElem? (i := 10) rfl))) (ty := .int) (by decide)
  have F9 : Fld Z h6 b6 "com/example/histories_to_cohorts/historiestocohorts/service/SetTrie" "keys" "[J" .null := D6 (Or.inl (hw _ (List.mem_of_getElem? (i := 17) rfl))) (ty := (.array .long)) (by decide)
  have F10 : Fld Z h6 b6 "com/example/histories_to_cohorts/historiestocohorts/service/SetTrie" "children" "[I" .null := D6 (Or.inl (hw _ (List.mem_of_getElem? (i := 25) rfl))) (ty := (.array .int)) (by decide)
  have F11 : Fld Z h6 b6 "com/example/histories_to_cohorts/historiestocohorts/service/SetTrie" "shift" "I" (.int (0 : Int32)) := D6 (Or.inl (hw _ (List.mem_of_getElem? (i := 36) rfl))) (ty := .int) (by decide)
  have F12 : Fld Z h6 b6 "com/example/histories_to_cohorts/historiestocohorts/service/SetTrie" "counts" "[I" .null := D6 (Or.inl (hw _ (List.mem_of_getElem? (i := 38) rfl))) (ty := (.array .int)) (by decide)
  have K13 : Keep h0 h6 [] := (Keep.refl h0 []).ext Ex6
  obtain ⟨_, _, ⟨T14, L14, kk14, n14⟩, -, X14, ⟨Lc14, hQ14, l14, y14, z14⟩, st14⟩ := X6.specialBack hx (y := (⟨"com/example/histories_to_cohorts/historiestocohorts/service/SetTrie", "<init>", "()V"⟩ : MethodName)) rfl hown (mvT hZ (hw _ (List.mem_of_getElem? (i := 3) rfl))) (mvT hZ (hw _ (List.mem_of_getElem? (i := 4) rfl))) (mvT hZ (hw _ (List.mem_of_getElem? (i := 5) rfl))) (by decide) (backOf (W := 1) (rm_init l Z a0 hw [] b6 h6 n0 (Nat.le_trans Z0 K13.1) E7 F9 F10 F12 F8 F11 g_b6) hZ (hw _ (List.mem_of_getElem? (i := 5) rfl)) (hw _ (List.mem_of_getElem? (i := 2) rfl)) (by decide) (by decide)) (g := (mkF m 57 #[.val (.int p1), .val (.int p2), .val (.int p3), .val (.int p4), .val (.int p5), .val (.int qp), .val (.int sel), .val (.int qc), .unset, .unset, .unset, .unset, .unset, .unset, .unset, .unset, .unset] [(.ref b6), (.ref b6)])) rfl (by rw [hml]; rfl) (Steps.refl _) (a := b6) (argsL := []) (rest := [(.ref b6)]) (lenOf pd___V rfl) rfl (by show 2 * 0 + _ ≤ _; exact Nat.le_of_eq rfl) (hb hby at_57) (fun _ _ => ⟨rfl, e6, (by decide : 1 + 3 ≤ _), (by decide : 5 + 48 ≤ _)⟩)
  dsimp only [Pt.U, Pt.locs, Pt.cells, Pt.slots] at X14 l14 y14 z14 st14 hQ14
  subst l14 y14 z14
  obtain ⟨rfl, N14q, Ki, ak, ac, an, kk, kc, kn, ⟨za, zc, zn, y1, y2, y3⟩, Si⟩ := hQ14
  have N14 := Fr.app N0 N14q
  have K15 : Keep h0 T14.heap [] := K13.trans Ki (allS (Or.inr sz_b6) all0)
  have E16 : Exa Z T14.heap b6 "com/example/histories_to_cohorts/historiestocohorts/service/SetTrie" := E7.keep Ki
  have sz_ak : h0.size ≤ ak := Nat.le_trans K13.1 za
  have sz_ac : h0.size ≤ ac := Nat.le_trans K13.1 zc
  have g_ak : n0 ≤ ak := Nat.le_trans Z0 sz_ak
  have g_ac : n0 ≤ ac := Nat.le_trans Z0 sz_ac
  have no_ak : b6 ≠ ak := Nat.ne_of_lt (Nat.lt_of_lt_of_le E7.lt za)
  have no_ac : b6 ≠ ac := Nat.ne_of_lt (Nat.lt_of_lt_of_le E7.lt zc)
  have no_an : b6 ≠ an := Nat.ne_of_lt (Nat.lt_of_lt_of_le E7.lt zn)
  have E17 : Exa Z T14.heap b6 "com/example/histories_to_cohorts/historiestocohorts/service/SetTrie" := Si.1
  obtain ⟨cq18, kq18, q18a, q18b, q18c⟩ := isOf hZ rfl E17
  obtain ⟨_, _, ⟨T18, L18, kk18, n18⟩, -, X18, ⟨Lc18, hQ18, l18, y18, z18⟩, st18⟩ := X14.virtualBack hx (y := (⟨"com/example/histories_to_cohorts/historiestocohorts/service/SetTrie", "child", "(II)I"⟩ : MethodName)) (z := (⟨"com/example/histories_to_cohorts/historiestocohorts/service/SetTrie", "child", "(II)I"⟩ : MethodName)) hown (mvT hZ (hw _ (List.mem_of_getElem? (i := 39) rfl))) (mvT hZ (hw _ (List.mem_of_getElem? (i := 40) rfl))) (notFace_of_selects (args := #[]) (mvT hZ (hw _ (List.mem_of_getElem? (i := 42) rfl)))) (mvT hZ (hw _ (List.mem_of_getElem? (i := 42) rfl))) (mvT hZ (hw _ (List.mem_of_getElem? (i := 41) rfl))) (by decide) (backOf (W := 0) (rm_child l Z a0 hw [] b6 qp qc 1 own_M16 own_Z16 ak ac an kk kc kn T14.heap n0 (Nat.le_trans Z0 K15.1) Si (t1 _)) hZ (hw _ (List.mem_of_getElem? (i := 43) rfl)) (hw _ (List.mem_of_getElem? (i := 2) rfl)) (by decide) (by decide)) q18a q18c (g := (mkF m 68 #[.val (.int p1), .val (.int p2), .val (.int p3), .val (.int p4), .val (.int p5), .val (.int qp), .val (.int sel), .val (.int qc), .val (.ref b6), .unset, .unset, .unset, .unset, .unset, .unset, .unset, .unset] [(.int qc), (.int qp), (.ref b6)])) rfl (by rw [hml]; rfl) (Steps.refl _) (argsL := [(.int qp), (.int qc)]) (rest := []) (lenOf pd__II_I rfl) rfl (by show 2 * 0 + _ ≤ _; exact Nat.le_of_eq rfl) (hb hby at_68) (fun _ _ => ⟨rfl, rfl, (by decide : 4 + 0 ≤ _), (by decide : 53 + 0 ≤ _)⟩)
  dsimp only [Pt.U, Pt.locs, Pt.cells, Pt.slots] at X18 l18 y18 z18 st18 hQ18
  subst l18 y18 z18
  obtain ⟨rfl, N18q, u1⟩ := hQ18
  have N18 := Fr.app N14 N18q
  have k19 : ∀ t, Steps p.tables e below (T18.setTop (mkF m 73 #[.val (.int p1), .val (.int p2), .val (.int p3), .val (.int p4), .val (.int p5), .val (.int qp), .val (.int sel), .val (.int qc), .val (.ref b6), .val (.int (own_child own_M16 own_Z16 (own_key qp qc))), .unset, .unset, .unset, .unset, .unset, .unset, .unset] [])) t → Steps p.tables e below (s₁.setTop (entryFrame m #[(.int p1), (.int p2), (.int p3), (.int p4), (.int p5)] maxLocals)) t := fun t k => k5 t (by
    show Steps p.tables e below (s₁.setTop (mkF m 53 #[.val (.int p1), .val (.int p2), .val (.int p3), .val (.int p4), .val (.int p5), .val (.int qp), .val (.int sel), .val (.int qc), .unset, .unset, .unset, .unset, .unset, .unset, .unset, .unset, .unset] [])) _
    refine st6 _ ?_
    show Steps p.tables e below (T6.setTop (mkF m 56 #[.val (.int p1), .val (.int p2), .val (.int p3), .val (.int p4), .val (.int p5), .val (.int qp), .val (.int sel), .val (.int qc), .unset, .unset, .unset, .unset, .unset, .unset, .unset, .unset, .unset] [(.ref b6)])) _
    refine XS.dup X6.here hx rfl (hb hby at_56) rfl rfl ?_
    show Steps p.tables e below (T6.setTop (mkF m 57 #[.val (.int p1), .val (.int p2), .val (.int p3), .val (.int p4), .val (.int p5), .val (.int qp), .val (.int sel), .val (.int qc), .unset, .unset, .unset, .unset, .unset, .unset, .unset, .unset, .unset] [(.ref b6), (.ref b6)])) _
    refine st14.trans ?_
    show Steps p.tables e below (T14.setTop (mkF m 60 #[.val (.int p1), .val (.int p2), .val (.int p3), .val (.int p4), .val (.int p5), .val (.int qp), .val (.int sel), .val (.int qc), .unset, .unset, .unset, .unset, .unset, .unset, .unset, .unset, .unset] [(.ref b6)])) _
    refine XS.astore X14.here hx rfl (hb hby at_60) rfl rfl (l' := #[.val (.int p1), .val (.int p2), .val (.int p3), .val (.int p4), .val (.int p5), .val (.int qp), .val (.int sel), .val (.int qc), .val (.ref b6), .unset, .unset, .unset, .unset, .unset, .unset, .unset, .unset]) rfl ?_
    show Steps p.tables e below (T14.setTop (mkF m 62 #[.val (.int p1), .val (.int p2), .val (.int p3), .val (.int p4), .val (.int p5), .val (.int qp), .val (.int sel), .val (.int qc), .val (.ref b6), .unset, .unset, .unset, .unset, .unset, .unset, .unset, .unset] [])) _
    refine XS.aload X14.here hx rfl (hb hby at_62) rfl rfl ?_
    show Steps p.tables e below (T14.setTop (mkF m 64 #[.val (.int p1), .val (.int p2), .val (.int p3), .val (.int p4), .val (.int p5), .val (.int qp), .val (.int sel), .val (.int qc), .val (.ref b6), .unset, .unset, .unset, .unset, .unset, .unset, .unset, .unset] [(.ref b6)])) _
    refine XS.iload X14.here hx rfl (hb hby at_64) rfl ?_
    show Steps p.tables e below (T14.setTop (mkF m 66 #[.val (.int p1), .val (.int p2), .val (.int p3), .val (.int p4), .val (.int p5), .val (.int qp), .val (.int sel), .val (.int qc), .val (.ref b6), .unset, .unset, .unset, .unset, .unset, .unset, .unset, .unset] [(.int qp), (.ref b6)])) _
    refine XS.iload X14.here hx rfl (hb hby at_66) rfl ?_
    show Steps p.tables e below (T14.setTop (mkF m 68 #[.val (.int p1), .val (.int p2), .val (.int p3), .val (.int p4), .val (.int p5), .val (.int qp), .val (.int sel), .val (.int qc), .val (.ref b6), .unset, .unset, .unset, .unset, .unset, .unset, .unset, .unset] [(.int qc), (.int qp), (.ref b6)])) _
    refine st18.trans ?_
    show Steps p.tables e below (T18.setTop (mkF m 71 #[.val (.int p1), .val (.int p2), .val (.int p3), .val (.int p4), .val (.int p5), .val (.int qp), .val (.int sel), .val (.int qc), .val (.ref b6), .unset, .unset, .unset, .unset, .unset, .unset, .unset, .unset] [(.int (own_child own_M16 own_Z16 (own_key qp qc)))])) _
    refine XS.istore X18.here hx rfl (hb hby at_71) rfl (l' := #[.val (.int p1), .val (.int p2), .val (.int p3), .val (.int p4), .val (.int p5), .val (.int qp), .val (.int sel), .val (.int qc), .val (.ref b6), .val (.int (own_child own_M16 own_Z16 (own_key qp qc))), .unset, .unset, .unset, .unset, .unset, .unset, .unset]) rfl ?_
    exact k)
  obtain ⟨v9, hd_v9⟩ : ∃ z : Int32, z = (own_child own_M16 own_Z16 (own_key qp qc)) := ⟨_, rfl⟩
  have k20 : ∀ t, Steps p.tables e below (T18.setTop (mkF m 73 #[.val (.int p1), .val (.int p2), .val (.int p3), .val (.int p4), .val (.int p5), .val (.int qp), .val (.int sel), .val (.int qc), .val (.ref b6), .val (.int v9), .unset, .unset, .unset, .unset, .unset, .unset, .unset] [])) t → Steps p.tables e below (s₁.setTop (entryFrame m #[(.int p1), (.int p2), (.int p3), (.int p4), (.int p5)] maxLocals)) t := by rw [hd_v9]; exact k19
  obtain ⟨cq21, kq21, q21a, q21b, q21c⟩ := isOf hZ u1 E17
  obtain ⟨_, _, ⟨T21, L21, kk21, n21⟩, -, X21, ⟨Lc21, hQ21, l21, y21, z21⟩, st21⟩ := X18.virtualBack hx (y := (⟨"com/example/histories_to_cohorts/historiestocohorts/service/SetTrie", "child", "(II)I"⟩ : MethodName)) (z := (⟨"com/example/histories_to_cohorts/historiestocohorts/service/SetTrie", "child", "(II)I"⟩ : MethodName)) hown (mvT hZ (hw _ (List.mem_of_getElem? (i := 39) rfl))) (mvT hZ (hw _ (List.mem_of_getElem? (i := 40) rfl))) (notFace_of_selects (args := #[]) (mvT hZ (hw _ (List.mem_of_getElem? (i := 42) rfl)))) (mvT hZ (hw _ (List.mem_of_getElem? (i := 42) rfl))) (mvT hZ (hw _ (List.mem_of_getElem? (i := 41) rfl))) (by decide) (backOf (W := 0) (rm_child l Z a0 hw [] b6 (0 : Int32) p1 1 own_M16 own_Z16 ak ac an kk kc kn T14.heap n0 (Nat.le_trans Z0 K15.1) Si (t1 _)) hZ (hw _ (List.mem_of_getElem? (i := 43) rfl)) (hw _ (List.mem_of_getElem? (i := 2) rfl)) (by decide) (by decide)) q21a q21c (g := (mkF m 77 #[.val (.int p1), .val (.int p2), .val (.int p3), .val (.int p4), .val (.int p5), .val (.int qp), .val (.int sel), .val (.int qc), .val (.ref b6), .val (.int v9), .unset, .unset, .unset, .unset, .unset, .unset, .unset] [(.int p1), (.int (0 : Int32)), (.ref b6)])) rfl (by rw [hml]; rfl) (Steps.refl _) (argsL := [(.int (0 : Int32)), (.int p1)]) (rest := []) (lenOf pd__II_I rfl) rfl (by show 2 * 0 + _ ≤ _; exact Nat.le_of_eq rfl) (hb hby at_77) (fun _ _ => ⟨rfl, u1, (by decide : 4 + 0 ≤ _), (by decide : 53 + 0 ≤ _)⟩)
  dsimp only [Pt.U, Pt.locs, Pt.cells, Pt.slots] at X21 l21 y21 z21 st21 hQ21
  subst l21 y21 z21
  obtain ⟨rfl, N21q, u2⟩ := hQ21
  have N21 := Fr.app N18 N21q
  have k22 : ∀ t, Steps p.tables e below (T21.setTop (mkF m 82 #[.val (.int p1), .val (.int p2), .val (.int p3), .val (.int p4), .val (.int p5), .val (.int qp), .val (.int sel), .val (.int qc), .val (.ref b6), .val (.int v9), .val (.int (own_child own_M16 own_Z16 (own_key (0 : Int32) p1))), .unset, .unset, .unset, .unset, .unset, .unset] [])) t → Steps p.tables e below (s₁.setTop (entryFrame m #[(.int p1), (.int p2), (.int p3), (.int p4), (.int p5)] maxLocals)) t := fun t k => k20 t (by
    show Steps p.tables e below (T18.setTop (mkF m 73 #[.val (.int p1), .val (.int p2), .val (.int p3), .val (.int p4), .val (.int p5), .val (.int qp), .val (.int sel), .val (.int qc), .val (.ref b6), .val (.int v9), .unset, .unset, .unset, .unset, .unset, .unset, .unset] [])) _
    refine XS.aload X18.here hx rfl (hb hby at_73) rfl rfl ?_
    show Steps p.tables e below (T18.setTop (mkF m 75 #[.val (.int p1), .val (.int p2), .val (.int p3), .val (.int p4), .val (.int p5), .val (.int qp), .val (.int sel), .val (.int qc), .val (.ref b6), .val (.int v9), .unset, .unset, .unset, .unset, .unset, .unset, .unset] [(.ref b6)])) _
    refine XS.iconst X18.here hx rfl (hb hby at_75) ?_
    show Steps p.tables e below (T18.setTop (mkF m 76 #[.val (.int p1), .val (.int p2), .val (.int p3), .val (.int p4), .val (.int p5), .val (.int qp), .val (.int sel), .val (.int qc), .val (.ref b6), .val (.int v9), .unset, .unset, .unset, .unset, .unset, .unset, .unset] [(.int (0 : Int32)), (.ref b6)])) _
    refine XS.iloadN X18.here hx rfl (hb hby at_76) rfl ?_
    show Steps p.tables e below (T18.setTop (mkF m 77 #[.val (.int p1), .val (.int p2), .val (.int p3), .val (.int p4), .val (.int p5), .val (.int qp), .val (.int sel), .val (.int qc), .val (.ref b6), .val (.int v9), .unset, .unset, .unset, .unset, .unset, .unset, .unset] [(.int p1), (.int (0 : Int32)), (.ref b6)])) _
    refine st21.trans ?_
    show Steps p.tables e below (T21.setTop (mkF m 80 #[.val (.int p1), .val (.int p2), .val (.int p3), .val (.int p4), .val (.int p5), .val (.int qp), .val (.int sel), .val (.int qc), .val (.ref b6), .val (.int v9), .unset, .unset, .unset, .unset, .unset, .unset, .unset] [(.int (own_child own_M16 own_Z16 (own_key (0 : Int32) p1)))])) _
    refine XS.istore X21.here hx rfl (hb hby at_80) rfl (l' := #[.val (.int p1), .val (.int p2), .val (.int p3), .val (.int p4), .val (.int p5), .val (.int qp), .val (.int sel), .val (.int qc), .val (.ref b6), .val (.int v9), .val (.int (own_child own_M16 own_Z16 (own_key (0 : Int32) p1))), .unset, .unset, .unset, .unset, .unset, .unset]) rfl ?_
    exact k)
  obtain ⟨v10, hd_v10⟩ : ∃ z : Int32, z = (own_child own_M16 own_Z16 (own_key (0 : Int32) p1)) := ⟨_, rfl⟩
  have k23 : ∀ t, Steps p.tables e below (T21.setTop (mkF m 82 #[.val (.int p1), .val (.int p2), .val (.int p3), .val (.int p4), .val (.int p5), .val (.int qp), .val (.int sel), .val (.int qc), .val (.ref b6), .val (.int v9), .val (.int v10), .unset, .unset, .unset, .unset, .unset, .unset] [])) t → Steps p.tables e below (s₁.setTop (entryFrame m #[(.int p1), (.int p2), (.int p3), (.int p4), (.int p5)] maxLocals)) t := by rw [hd_v10]; exact k22
  obtain ⟨cq24, kq24, q24a, q24b, q24c⟩ := isOf hZ u2 E17
  obtain ⟨_, _, ⟨T24, L24, kk24, n24⟩, -, X24, ⟨Lc24, hQ24, l24, y24, z24⟩, st24⟩ := X21.virtualBack hx (y := (⟨"com/example/histories_to_cohorts/historiestocohorts/service/SetTrie", "addChild", "(II)I"⟩ : MethodName)) (z := (⟨"com/example/histories_to_cohorts/historiestocohorts/service/SetTrie", "addChild", "(II)I"⟩ : MethodName)) hown (mvT hZ (hw _ (List.mem_of_getElem? (i := 53) rfl))) (mvT hZ (hw _ (List.mem_of_getElem? (i := 54) rfl))) (notFace_of_selects (args := #[]) (mvT hZ (hw _ (List.mem_of_getElem? (i := 56) rfl)))) (mvT hZ (hw _ (List.mem_of_getElem? (i := 56) rfl))) (mvT hZ (hw _ (List.mem_of_getElem? (i := 55) rfl))) (by decide) (backOf (W := 0) (rm_addc l Z a0 hw [] b6 (0 : Int32) p1 1 own_M16 own_Z16 ak ac an kk kc kn T14.heap n0 (Nat.le_trans Z0 K15.1) Si no_ak no_ac no_an y1 y2 y3 g_b6 g_ak g_ac (t1 _) rfl rfl (by decide) (by decide)) hZ (hw _ (List.mem_of_getElem? (i := 57) rfl)) (hw _ (List.mem_of_getElem? (i := 2) rfl)) (by decide) (by decide)) q24a q24c (g := (mkF m 86 #[.val (.int p1), .val (.int p2), .val (.int p3), .val (.int p4), .val (.int p5), .val (.int qp), .val (.int sel), .val (.int qc), .val (.ref b6), .val (.int v9), .val (.int v10), .unset, .unset, .unset, .unset, .unset, .unset] [(.int p1), (.int (0 : Int32)), (.ref b6)])) rfl (by rw [hml]; rfl) (Steps.refl _) (argsL := [(.int (0 : Int32)), (.int p1)]) (rest := []) (lenOf pd__II_I rfl) rfl (by show 2 * 0 + _ ≤ _; exact Nat.le_of_eq rfl) (hb hby at_86) (fun _ _ => ⟨rfl, u2, (by decide : 4 + 0 ≤ _), (by decide : 53 + 0 ≤ _)⟩)
  dsimp only [Pt.U, Pt.locs, Pt.cells, Pt.slots] at X24 l24 y24 z24 st24 hQ24
  subst l24 y24 z24
  obtain ⟨rfl, N24q, Ka1, Sa1⟩ := hQ24
  have N24 := Fr.app N21 N24q
  have K25 : Keep h0 T24.heap [] := K15.trans Ka1 (allS (Or.inr sz_b6) (allS (Or.inr sz_ak) (allS (Or.inr sz_ac) all0)))
  have E26 : Exa Z T24.heap b6 "com/example/histories_to_cohorts/historiestocohorts/service/SetTrie" := E17.keep Ka1
  rw [← hKA, ← hCA, t4] at Sa1
  have E27 : Exa Z T24.heap b6 "com/example/histories_to_cohorts/historiestocohorts/service/SetTrie" := Sa1.1
  have k28 : ∀ t, Steps p.tables e below (T24.setTop (mkF m 91 #[.val (.int p1), .val (.int p2), .val (.int p3), .val (.int p4), .val (.int p5), .val (.int qp), .val (.int sel), .val (.int qc), .val (.ref b6), .val (.int v9), .val (.int v10), .val (.int (own_addv 1 own_M16 own_Z16 (own_key (0 : Int32) p1))), .unset, .unset, .unset, .unset, .unset] [])) t → Steps p.tables e below (s₁.setTop (entryFrame m #[(.int p1), (.int p2), (.int p3), (.int p4), (.int p5)] maxLocals)) t := fun t k => k23 t (by
    show Steps p.tables e below (T21.setTop (mkF m 82 #[.val (.int p1), .val (.int p2), .val (.int p3), .val (.int p4), .val (.int p5), .val (.int qp), .val (.int sel), .val (.int qc), .val (.ref b6), .val (.int v9), .val (.int v10), .unset, .unset, .unset, .unset, .unset, .unset] [])) _
    refine XS.aload X21.here hx rfl (hb hby at_82) rfl rfl ?_
    show Steps p.tables e below (T21.setTop (mkF m 84 #[.val (.int p1), .val (.int p2), .val (.int p3), .val (.int p4), .val (.int p5), .val (.int qp), .val (.int sel), .val (.int qc), .val (.ref b6), .val (.int v9), .val (.int v10), .unset, .unset, .unset, .unset, .unset, .unset] [(.ref b6)])) _
    refine XS.iconst X21.here hx rfl (hb hby at_84) ?_
    show Steps p.tables e below (T21.setTop (mkF m 85 #[.val (.int p1), .val (.int p2), .val (.int p3), .val (.int p4), .val (.int p5), .val (.int qp), .val (.int sel), .val (.int qc), .val (.ref b6), .val (.int v9), .val (.int v10), .unset, .unset, .unset, .unset, .unset, .unset] [(.int (0 : Int32)), (.ref b6)])) _
    refine XS.iloadN X21.here hx rfl (hb hby at_85) rfl ?_
    show Steps p.tables e below (T21.setTop (mkF m 86 #[.val (.int p1), .val (.int p2), .val (.int p3), .val (.int p4), .val (.int p5), .val (.int qp), .val (.int sel), .val (.int qc), .val (.ref b6), .val (.int v9), .val (.int v10), .unset, .unset, .unset, .unset, .unset, .unset] [(.int p1), (.int (0 : Int32)), (.ref b6)])) _
    refine st24.trans ?_
    show Steps p.tables e below (T24.setTop (mkF m 89 #[.val (.int p1), .val (.int p2), .val (.int p3), .val (.int p4), .val (.int p5), .val (.int qp), .val (.int sel), .val (.int qc), .val (.ref b6), .val (.int v9), .val (.int v10), .unset, .unset, .unset, .unset, .unset, .unset] [(.int (own_addv 1 own_M16 own_Z16 (own_key (0 : Int32) p1)))])) _
    refine XS.istore X24.here hx rfl (hb hby at_89) rfl (l' := #[.val (.int p1), .val (.int p2), .val (.int p3), .val (.int p4), .val (.int p5), .val (.int qp), .val (.int sel), .val (.int qc), .val (.ref b6), .val (.int v9), .val (.int v10), .val (.int (own_addv 1 own_M16 own_Z16 (own_key (0 : Int32) p1))), .unset, .unset, .unset, .unset, .unset]) rfl ?_
    exact k)
  have qk29 : (own_addv 1 own_M16 own_Z16 (own_key (0 : Int32) p1)) = (1 : Int32) := t3
  have k29 : ∀ t, Steps p.tables e below (T24.setTop (mkF m 91 #[.val (.int p1), .val (.int p2), .val (.int p3), .val (.int p4), .val (.int p5), .val (.int qp), .val (.int sel), .val (.int qc), .val (.ref b6), .val (.int v9), .val (.int v10), .val (.int (1 : Int32)), .unset, .unset, .unset, .unset, .unset] [])) t → Steps p.tables e below (s₁.setTop (entryFrame m #[(.int p1), (.int p2), (.int p3), (.int p4), (.int p5)] maxLocals)) t := by rw [qk29] at k28; exact k28
  obtain ⟨cq30, kq30, q30a, q30b, q30c⟩ := isOf hZ rfl E27
  obtain ⟨_, _, ⟨T30, L30, kk30, n30⟩, -, X30, ⟨Lc30, hQ30, l30, y30, z30⟩, st30⟩ := X24.virtualBack hx (y := (⟨"com/example/histories_to_cohorts/historiestocohorts/service/SetTrie", "addChild", "(II)I"⟩ : MethodName)) (z := (⟨"com/example/histories_to_cohorts/historiestocohorts/service/SetTrie", "addChild", "(II)I"⟩ : MethodName)) hown (mvT hZ (hw _ (List.mem_of_getElem? (i := 53) rfl))) (mvT hZ (hw _ (List.mem_of_getElem? (i := 54) rfl))) (notFace_of_selects (args := #[]) (mvT hZ (hw _ (List.mem_of_getElem? (i := 56) rfl)))) (mvT hZ (hw _ (List.mem_of_getElem? (i := 56) rfl))) (mvT hZ (hw _ (List.mem_of_getElem? (i := 55) rfl))) (by decide) (backOf (W := 0) (rm_addc l Z a0 hw [] b6 (1 : Int32) p2 2 KA CA ak ac an kk kc kn T24.heap n0 (Nat.le_trans Z0 K25.1) Sa1 no_ak no_ac no_an y1 y2 y3 g_b6 g_ak g_ac (t5 _) t6 t7 (by decide) (by decide)) hZ (hw _ (List.mem_of_getElem? (i := 57) rfl)) (hw _ (List.mem_of_getElem? (i := 2) rfl)) (by decide) (by decide)) q30a q30c (g := (mkF m 96 #[.val (.int p1), .val (.int p2), .val (.int p3), .val (.int p4), .val (.int p5), .val (.int qp), .val (.int sel), .val (.int qc), .val (.ref b6), .val (.int v9), .val (.int v10), .val (.int (1 : Int32)), .unset, .unset, .unset, .unset, .unset] [(.int p2), (.int (1 : Int32)), (.ref b6)])) rfl (by rw [hml]; rfl) (Steps.refl _) (argsL := [(.int (1 : Int32)), (.int p2)]) (rest := []) (lenOf pd__II_I rfl) rfl (by show 2 * 0 + _ ≤ _; exact Nat.le_of_eq rfl) (hb hby at_96) (fun _ _ => ⟨rfl, rfl, (by decide : 4 + 0 ≤ _), (by decide : 53 + 0 ≤ _)⟩)
  dsimp only [Pt.U, Pt.locs, Pt.cells, Pt.slots] at X30 l30 y30 z30 st30 hQ30
  subst l30 y30 z30
  obtain ⟨rfl, N30q, Ka2, Sa2⟩ := hQ30
  have N30 := Fr.app N24 N30q
  have K31 : Keep h0 T30.heap [] := K25.trans Ka2 (allS (Or.inr sz_b6) (allS (Or.inr sz_ak) (allS (Or.inr sz_ac) all0)))
  have E32 : Exa Z T30.heap b6 "com/example/histories_to_cohorts/historiestocohorts/service/SetTrie" := E27.keep Ka2
  rw [← hKB, ← hCB, t9] at Sa2
  have E33 : Exa Z T30.heap b6 "com/example/histories_to_cohorts/historiestocohorts/service/SetTrie" := Sa2.1
  have k34 : ∀ t, Steps p.tables e below (T30.setTop (mkF m 101 #[.val (.int p1), .val (.int p2), .val (.int p3), .val (.int p4), .val (.int p5), .val (.int qp), .val (.int sel), .val (.int qc), .val (.ref b6), .val (.int v9), .val (.int v10), .val (.int (1 : Int32)), .val (.int (own_addv 2 KA CA (own_key (1 : Int32) p2))), .unset, .unset, .unset, .unset] [])) t → Steps p.tables e below (s₁.setTop (entryFrame m #[(.int p1), (.int p2), (.int p3), (.int p4), (.int p5)] maxLocals)) t := fun t k => k29 t (by
    show Steps p.tables e below (T24.setTop (mkF m 91 #[.val (.int p1), .val (.int p2), .val (.int p3), .val (.int p4), .val (.int p5), .val (.int qp), .val (.int sel), .val (.int qc), .val (.ref b6), .val (.int v9), .val (.int v10), .val (.int (1 : Int32)), .unset, .unset, .unset, .unset, .unset] [])) _
    refine XS.aload X24.here hx rfl (hb hby at_91) rfl rfl ?_
    show Steps p.tables e below (T24.setTop (mkF m 93 #[.val (.int p1), .val (.int p2), .val (.int p3), .val (.int p4), .val (.int p5), .val (.int qp), .val (.int sel), .val (.int qc), .val (.ref b6), .val (.int v9), .val (.int v10), .val (.int (1 : Int32)), .unset, .unset, .unset, .unset, .unset] [(.ref b6)])) _
    refine XS.iload X24.here hx rfl (hb hby at_93) rfl ?_
    show Steps p.tables e below (T24.setTop (mkF m 95 #[.val (.int p1), .val (.int p2), .val (.int p3), .val (.int p4), .val (.int p5), .val (.int qp), .val (.int sel), .val (.int qc), .val (.ref b6), .val (.int v9), .val (.int v10), .val (.int (1 : Int32)), .unset, .unset, .unset, .unset, .unset] [(.int (1 : Int32)), (.ref b6)])) _
    refine XS.iloadN X24.here hx rfl (hb hby at_95) rfl ?_
    show Steps p.tables e below (T24.setTop (mkF m 96 #[.val (.int p1), .val (.int p2), .val (.int p3), .val (.int p4), .val (.int p5), .val (.int qp), .val (.int sel), .val (.int qc), .val (.ref b6), .val (.int v9), .val (.int v10), .val (.int (1 : Int32)), .unset, .unset, .unset, .unset, .unset] [(.int p2), (.int (1 : Int32)), (.ref b6)])) _
    refine st30.trans ?_
    show Steps p.tables e below (T30.setTop (mkF m 99 #[.val (.int p1), .val (.int p2), .val (.int p3), .val (.int p4), .val (.int p5), .val (.int qp), .val (.int sel), .val (.int qc), .val (.ref b6), .val (.int v9), .val (.int v10), .val (.int (1 : Int32)), .unset, .unset, .unset, .unset, .unset] [(.int (own_addv 2 KA CA (own_key (1 : Int32) p2)))])) _
    refine XS.istore X30.here hx rfl (hb hby at_99) rfl (l' := #[.val (.int p1), .val (.int p2), .val (.int p3), .val (.int p4), .val (.int p5), .val (.int qp), .val (.int sel), .val (.int qc), .val (.ref b6), .val (.int v9), .val (.int v10), .val (.int (1 : Int32)), .val (.int (own_addv 2 KA CA (own_key (1 : Int32) p2))), .unset, .unset, .unset, .unset]) rfl ?_
    exact k)
  have qk35 : (own_addv 2 KA CA (own_key (1 : Int32) p2)) = (2 : Int32) := t8
  have k35 : ∀ t, Steps p.tables e below (T30.setTop (mkF m 101 #[.val (.int p1), .val (.int p2), .val (.int p3), .val (.int p4), .val (.int p5), .val (.int qp), .val (.int sel), .val (.int qc), .val (.ref b6), .val (.int v9), .val (.int v10), .val (.int (1 : Int32)), .val (.int (2 : Int32)), .unset, .unset, .unset, .unset] [])) t → Steps p.tables e below (s₁.setTop (entryFrame m #[(.int p1), (.int p2), (.int p3), (.int p4), (.int p5)] maxLocals)) t := by rw [qk35] at k34; exact k34
  obtain ⟨cq36, kq36, q36a, q36b, q36c⟩ := isOf hZ rfl E33
  obtain ⟨_, _, ⟨T36, L36, kk36, n36⟩, -, X36, ⟨Lc36, hQ36, l36, y36, z36⟩, st36⟩ := X30.virtualBack hx (y := (⟨"com/example/histories_to_cohorts/historiestocohorts/service/SetTrie", "addChild", "(II)I"⟩ : MethodName)) (z := (⟨"com/example/histories_to_cohorts/historiestocohorts/service/SetTrie", "addChild", "(II)I"⟩ : MethodName)) hown (mvT hZ (hw _ (List.mem_of_getElem? (i := 53) rfl))) (mvT hZ (hw _ (List.mem_of_getElem? (i := 54) rfl))) (notFace_of_selects (args := #[]) (mvT hZ (hw _ (List.mem_of_getElem? (i := 56) rfl)))) (mvT hZ (hw _ (List.mem_of_getElem? (i := 56) rfl))) (mvT hZ (hw _ (List.mem_of_getElem? (i := 55) rfl))) (by decide) (backOf (W := 0) (rm_addc l Z a0 hw [] b6 (0 : Int32) p3 3 KB CB ak ac an kk kc kn T30.heap n0 (Nat.le_trans Z0 K31.1) Sa2 no_ak no_ac no_an y1 y2 y3 g_b6 g_ak g_ac (t10 _) t11 t12 (by decide) (by decide)) hZ (hw _ (List.mem_of_getElem? (i := 57) rfl)) (hw _ (List.mem_of_getElem? (i := 2) rfl)) (by decide) (by decide)) q36a q36c (g := (mkF m 105 #[.val (.int p1), .val (.int p2), .val (.int p3), .val (.int p4), .val (.int p5), .val (.int qp), .val (.int sel), .val (.int qc), .val (.ref b6), .val (.int v9), .val (.int v10), .val (.int (1 : Int32)), .val (.int (2 : Int32)), .unset, .unset, .unset, .unset] [(.int p3), (.int (0 : Int32)), (.ref b6)])) rfl (by rw [hml]; rfl) (Steps.refl _) (argsL := [(.int (0 : Int32)), (.int p3)]) (rest := []) (lenOf pd__II_I rfl) rfl (by show 2 * 0 + _ ≤ _; exact Nat.le_of_eq rfl) (hb hby at_105) (fun _ _ => ⟨rfl, rfl, (by decide : 4 + 0 ≤ _), (by decide : 53 + 0 ≤ _)⟩)
  dsimp only [Pt.U, Pt.locs, Pt.cells, Pt.slots] at X36 l36 y36 z36 st36 hQ36
  subst l36 y36 z36
  obtain ⟨rfl, N36q, Ka3, Sa3⟩ := hQ36
  have N36 := Fr.app N30 N36q
  have K37 : Keep h0 T36.heap [] := K31.trans Ka3 (allS (Or.inr sz_b6) (allS (Or.inr sz_ak) (allS (Or.inr sz_ac) all0)))
  have E38 : Exa Z T36.heap b6 "com/example/histories_to_cohorts/historiestocohorts/service/SetTrie" := E33.keep Ka3
  rw [← hKC, ← hCC] at Sa3
  have E39 : Exa Z T36.heap b6 "com/example/histories_to_cohorts/historiestocohorts/service/SetTrie" := Sa3.1
  have k40 : ∀ t, Steps p.tables e below (T36.setTop (mkF m 110 #[.val (.int p1), .val (.int p2), .val (.int p3), .val (.int p4), .val (.int p5), .val (.int qp), .val (.int sel), .val (.int qc), .val (.ref b6), .val (.int v9), .val (.int v10), .val (.int (1 : Int32)), .val (.int (2 : Int32)), .val (.int (own_addv 3 KB CB (own_key (0 : Int32) p3))), .unset, .unset, .unset] [])) t → Steps p.tables e below (s₁.setTop (entryFrame m #[(.int p1), (.int p2), (.int p3), (.int p4), (.int p5)] maxLocals)) t := fun t k => k35 t (by
    show Steps p.tables e below (T30.setTop (mkF m 101 #[.val (.int p1), .val (.int p2), .val (.int p3), .val (.int p4), .val (.int p5), .val (.int qp), .val (.int sel), .val (.int qc), .val (.ref b6), .val (.int v9), .val (.int v10), .val (.int (1 : Int32)), .val (.int (2 : Int32)), .unset, .unset, .unset, .unset] [])) _
    refine XS.aload X30.here hx rfl (hb hby at_101) rfl rfl ?_
    show Steps p.tables e below (T30.setTop (mkF m 103 #[.val (.int p1), .val (.int p2), .val (.int p3), .val (.int p4), .val (.int p5), .val (.int qp), .val (.int sel), .val (.int qc), .val (.ref b6), .val (.int v9), .val (.int v10), .val (.int (1 : Int32)), .val (.int (2 : Int32)), .unset, .unset, .unset, .unset] [(.ref b6)])) _
    refine XS.iconst X30.here hx rfl (hb hby at_103) ?_
    show Steps p.tables e below (T30.setTop (mkF m 104 #[.val (.int p1), .val (.int p2), .val (.int p3), .val (.int p4), .val (.int p5), .val (.int qp), .val (.int sel), .val (.int qc), .val (.ref b6), .val (.int v9), .val (.int v10), .val (.int (1 : Int32)), .val (.int (2 : Int32)), .unset, .unset, .unset, .unset] [(.int (0 : Int32)), (.ref b6)])) _
    refine XS.iloadN X30.here hx rfl (hb hby at_104) rfl ?_
    show Steps p.tables e below (T30.setTop (mkF m 105 #[.val (.int p1), .val (.int p2), .val (.int p3), .val (.int p4), .val (.int p5), .val (.int qp), .val (.int sel), .val (.int qc), .val (.ref b6), .val (.int v9), .val (.int v10), .val (.int (1 : Int32)), .val (.int (2 : Int32)), .unset, .unset, .unset, .unset] [(.int p3), (.int (0 : Int32)), (.ref b6)])) _
    refine st36.trans ?_
    show Steps p.tables e below (T36.setTop (mkF m 108 #[.val (.int p1), .val (.int p2), .val (.int p3), .val (.int p4), .val (.int p5), .val (.int qp), .val (.int sel), .val (.int qc), .val (.ref b6), .val (.int v9), .val (.int v10), .val (.int (1 : Int32)), .val (.int (2 : Int32)), .unset, .unset, .unset, .unset] [(.int (own_addv 3 KB CB (own_key (0 : Int32) p3)))])) _
    refine XS.istore X36.here hx rfl (hb hby at_108) rfl (l' := #[.val (.int p1), .val (.int p2), .val (.int p3), .val (.int p4), .val (.int p5), .val (.int qp), .val (.int sel), .val (.int qc), .val (.ref b6), .val (.int v9), .val (.int v10), .val (.int (1 : Int32)), .val (.int (2 : Int32)), .val (.int (own_addv 3 KB CB (own_key (0 : Int32) p3))), .unset, .unset, .unset]) rfl ?_
    exact k)
  obtain ⟨v13, hd_v13⟩ : ∃ z : Int32, z = (own_addv 3 KB CB (own_key (0 : Int32) p3)) := ⟨_, rfl⟩
  have k41 : ∀ t, Steps p.tables e below (T36.setTop (mkF m 110 #[.val (.int p1), .val (.int p2), .val (.int p3), .val (.int p4), .val (.int p5), .val (.int qp), .val (.int sel), .val (.int qc), .val (.ref b6), .val (.int v9), .val (.int v10), .val (.int (1 : Int32)), .val (.int (2 : Int32)), .val (.int v13), .unset, .unset, .unset] [])) t → Steps p.tables e below (s₁.setTop (entryFrame m #[(.int p1), (.int p2), (.int p3), (.int p4), (.int p5)] maxLocals)) t := by rw [hd_v13]; exact k40
  obtain ⟨cq42, kq42, q42a, q42b, q42c⟩ := isOf hZ rfl E39
  obtain ⟨_, _, ⟨T42, L42, kk42, n42⟩, -, X42, ⟨Lc42, hQ42, l42, y42, z42⟩, st42⟩ := X36.virtualBack hx (y := (⟨"com/example/histories_to_cohorts/historiestocohorts/service/SetTrie", "child", "(II)I"⟩ : MethodName)) (z := (⟨"com/example/histories_to_cohorts/historiestocohorts/service/SetTrie", "child", "(II)I"⟩ : MethodName)) hown (mvT hZ (hw _ (List.mem_of_getElem? (i := 39) rfl))) (mvT hZ (hw _ (List.mem_of_getElem? (i := 40) rfl))) (notFace_of_selects (args := #[]) (mvT hZ (hw _ (List.mem_of_getElem? (i := 42) rfl)))) (mvT hZ (hw _ (List.mem_of_getElem? (i := 42) rfl))) (mvT hZ (hw _ (List.mem_of_getElem? (i := 41) rfl))) (by decide) (backOf (W := 0) (rm_child l Z a0 hw [] b6 qp qc (own_addn 3 KB (own_key (0 : Int32) p3)) KC CC ak ac an kk kc kn T36.heap n0 (Nat.le_trans Z0 K37.1) Sa3 (t14 _)) hZ (hw _ (List.mem_of_getElem? (i := 43) rfl)) (hw _ (List.mem_of_getElem? (i := 2) rfl)) (by decide) (by decide)) q42a q42c (g := (mkF m 116 #[.val (.int p1), .val (.int p2), .val (.int p3), .val (.int p4), .val (.int p5), .val (.int qp), .val (.int sel), .val (.int qc), .val (.ref b6), .val (.int v9), .val (.int v10), .val (.int (1 : Int32)), .val (.int (2 : Int32)), .val (.int v13), .unset, .unset, .unset] [(.int qc), (.int qp), (.ref b6)])) rfl (by rw [hml]; rfl) (Steps.refl _) (argsL := [(.int qp), (.int qc)]) (rest := []) (lenOf pd__II_I rfl) rfl (by show 2 * 0 + _ ≤ _; exact Nat.le_of_eq rfl) (hb hby at_116) (fun _ _ => ⟨rfl, rfl, (by decide : 4 + 0 ≤ _), (by decide : 53 + 0 ≤ _)⟩)
  dsimp only [Pt.U, Pt.locs, Pt.cells, Pt.slots] at X42 l42 y42 z42 st42 hQ42
  subst l42 y42 z42
  obtain ⟨rfl, N42q, u3⟩ := hQ42
  have N42 := Fr.app N36 N42q
  have k43 : ∀ t, Steps p.tables e below (T42.setTop (mkF m 121 #[.val (.int p1), .val (.int p2), .val (.int p3), .val (.int p4), .val (.int p5), .val (.int qp), .val (.int sel), .val (.int qc), .val (.ref b6), .val (.int v9), .val (.int v10), .val (.int (1 : Int32)), .val (.int (2 : Int32)), .val (.int v13), .val (.int (own_child KC CC (own_key qp qc))), .unset, .unset] [])) t → Steps p.tables e below (s₁.setTop (entryFrame m #[(.int p1), (.int p2), (.int p3), (.int p4), (.int p5)] maxLocals)) t := fun t k => k41 t (by
    show Steps p.tables e below (T36.setTop (mkF m 110 #[.val (.int p1), .val (.int p2), .val (.int p3), .val (.int p4), .val (.int p5), .val (.int qp), .val (.int sel), .val (.int qc), .val (.ref b6), .val (.int v9), .val (.int v10), .val (.int (1 : Int32)), .val (.int (2 : Int32)), .val (.int v13), .unset, .unset, .unset] [])) _
    refine XS.aload X36.here hx rfl (hb hby at_110) rfl rfl ?_
    show Steps p.tables e below (T36.setTop (mkF m 112 #[.val (.int p1), .val (.int p2), .val (.int p3), .val (.int p4), .val (.int p5), .val (.int qp), .val (.int sel), .val (.int qc), .val (.ref b6), .val (.int v9), .val (.int v10), .val (.int (1 : Int32)), .val (.int (2 : Int32)), .val (.int v13), .unset, .unset, .unset] [(.ref b6)])) _
    refine XS.iload X36.here hx rfl (hb hby at_112) rfl ?_
    show Steps p.tables e below (T36.setTop (mkF m 114 #[.val (.int p1), .val (.int p2), .val (.int p3), .val (.int p4), .val (.int p5), .val (.int qp), .val (.int sel), .val (.int qc), .val (.ref b6), .val (.int v9), .val (.int v10), .val (.int (1 : Int32)), .val (.int (2 : Int32)), .val (.int v13), .unset, .unset, .unset] [(.int qp), (.ref b6)])) _
    refine XS.iload X36.here hx rfl (hb hby at_114) rfl ?_
    show Steps p.tables e below (T36.setTop (mkF m 116 #[.val (.int p1), .val (.int p2), .val (.int p3), .val (.int p4), .val (.int p5), .val (.int qp), .val (.int sel), .val (.int qc), .val (.ref b6), .val (.int v9), .val (.int v10), .val (.int (1 : Int32)), .val (.int (2 : Int32)), .val (.int v13), .unset, .unset, .unset] [(.int qc), (.int qp), (.ref b6)])) _
    refine st42.trans ?_
    show Steps p.tables e below (T42.setTop (mkF m 119 #[.val (.int p1), .val (.int p2), .val (.int p3), .val (.int p4), .val (.int p5), .val (.int qp), .val (.int sel), .val (.int qc), .val (.ref b6), .val (.int v9), .val (.int v10), .val (.int (1 : Int32)), .val (.int (2 : Int32)), .val (.int v13), .unset, .unset, .unset] [(.int (own_child KC CC (own_key qp qc)))])) _
    refine XS.istore X42.here hx rfl (hb hby at_119) rfl (l' := #[.val (.int p1), .val (.int p2), .val (.int p3), .val (.int p4), .val (.int p5), .val (.int qp), .val (.int sel), .val (.int qc), .val (.ref b6), .val (.int v9), .val (.int v10), .val (.int (1 : Int32)), .val (.int (2 : Int32)), .val (.int v13), .val (.int (own_child KC CC (own_key qp qc))), .unset, .unset]) rfl ?_
    exact k)
  obtain ⟨v14, hd_v14⟩ : ∃ z : Int32, z = (own_child KC CC (own_key qp qc)) := ⟨_, rfl⟩
  have k44 : ∀ t, Steps p.tables e below (T42.setTop (mkF m 121 #[.val (.int p1), .val (.int p2), .val (.int p3), .val (.int p4), .val (.int p5), .val (.int qp), .val (.int sel), .val (.int qc), .val (.ref b6), .val (.int v9), .val (.int v10), .val (.int (1 : Int32)), .val (.int (2 : Int32)), .val (.int v13), .val (.int v14), .unset, .unset] [])) t → Steps p.tables e below (s₁.setTop (entryFrame m #[(.int p1), (.int p2), (.int p3), (.int p4), (.int p5)] maxLocals)) t := by rw [hd_v14]; exact k43
  obtain ⟨ex, hd_ex⟩ : ∃ z : Int32, z = (if qp = (0 : Int32) then (if qc = p1 then (1 : Int32) else (if qc = p3 then (3 : Int32) else (if qp = (1 : Int32) then (if qc = p2 then (2 : Int32) else (-1 : Int32)) else (-1 : Int32)))) else (if qp = (1 : Int32) then (if qc = p2 then (2 : Int32) else (-1 : Int32)) else (-1 : Int32))) := ⟨_, rfl⟩
  have k45 : ∀ t, Steps p.tables e below (T42.setTop (mkF m 176 #[.val (.int p1), .val (.int p2), .val (.int p3), .val (.int p4), .val (.int p5), .val (.int qp), .val (.int sel), .val (.int qc), .val (.ref b6), .val (.int v9), .val (.int v10), .val (.int (1 : Int32)), .val (.int (2 : Int32)), .val (.int v13), .val (.int v14), .val (.int ex), .unset] [])) t → Steps p.tables e below (s₁.setTop (entryFrame m #[(.int p1), (.int p2), (.int p3), (.int p4), (.int p5)] maxLocals)) t := fun t k => k44 t (by
    show Steps p.tables e below (T42.setTop (mkF m 121 #[.val (.int p1), .val (.int p2), .val (.int p3), .val (.int p4), .val (.int p5), .val (.int qp), .val (.int sel), .val (.int qc), .val (.ref b6), .val (.int v9), .val (.int v10), .val (.int (1 : Int32)), .val (.int (2 : Int32)), .val (.int v13), .val (.int v14), .unset, .unset] [])) _
    refine XS.iload X42.here hx rfl (hb hby at_121) rfl ?_
    by_cases c123 : qp = (0 : Int32)
    ·
      show Steps p.tables e below (T42.setTop (mkF m 123 #[.val (.int p1), .val (.int p2), .val (.int p3), .val (.int p4), .val (.int p5), .val (.int qp), .val (.int sel), .val (.int qc), .val (.ref b6), .val (.int v9), .val (.int v10), .val (.int (1 : Int32)), .val (.int (2 : Int32)), .val (.int v13), .val (.int v14), .unset, .unset] [(.int qp)])) _
      refine XS.ifNo X42.here hx rfl (hb hby at_123) rfl ((if0 _ _).trans (teq c123).2) ?_
      show Steps p.tables e below (T42.setTop (mkF m 126 #[.val (.int p1), .val (.int p2), .val (.int p3), .val (.int p4), .val (.int p5), .val (.int qp), .val (.int sel), .val (.int qc), .val (.ref b6), .val (.int v9), .val (.int v10), .val (.int (1 : Int32)), .val (.int (2 : Int32)), .val (.int v13), .val (.int v14), .unset, .unset] [])) _
      refine XS.iload X42.here hx rfl (hb hby at_126) rfl ?_
      show Steps p.tables e below (T42.setTop (mkF m 128 #[.val (.int p1), .val (.int p2), .val (.int p3), .val (.int p4), .val (.int p5), .val (.int qp), .val (.int sel), .val (.int qc), .val (.ref b6), .val (.int v9), .val (.int v10), .val (.int (1 : Int32)), .val (.int (2 : Int32)), .val (.int v13), .val (.int v14), .unset, .unset] [(.int qc)])) _
      refine XS.iloadN X42.here hx rfl (hb hby at_128) rfl ?_
      by_cases c129 : qc = p1
      ·
        show Steps p.tables e below (T42.setTop (mkF m 129 #[.val (.int p1), .val (.int p2), .val (.int p3), .val (.int p4), .val (.int p5), .val (.int qp), .val (.int sel), .val (.int qc), .val (.ref b6), .val (.int v9), .val (.int v10), .val (.int (1 : Int32)), .val (.int (2 : Int32)), .val (.int v13), .val (.int v14), .unset, .unset] [(.int p1), (.int qc)])) _
        refine XS.icmpNo X42.here hx rfl (hb hby at_129) rfl (teq c129).2 ?_
        show Steps p.tables e below (T42.setTop (mkF m 132 #[.val (.int p1), .val (.int p2), .val (.int p3), .val (.int p4), .val (.int p5), .val (.int qp), .val (.int sel), .val (.int qc), .val (.ref b6), .val (.int v9), .val (.int v10), .val (.int (1 : Int32)), .val (.int (2 : Int32)), .val (.int v13), .val (.int v14), .unset, .unset] [])) _
        refine XS.iconst X42.here hx rfl (hb hby at_132) ?_
        show Steps p.tables e below (T42.setTop (mkF m 133 #[.val (.int p1), .val (.int p2), .val (.int p3), .val (.int p4), .val (.int p5), .val (.int qp), .val (.int sel), .val (.int qc), .val (.ref b6), .val (.int v9), .val (.int v10), .val (.int (1 : Int32)), .val (.int (2 : Int32)), .val (.int v13), .val (.int v14), .unset, .unset] [(.int (1 : Int32))])) _
        refine XS.istore X42.here hx rfl (hb hby at_133) rfl (l' := #[.val (.int p1), .val (.int p2), .val (.int p3), .val (.int p4), .val (.int p5), .val (.int qp), .val (.int sel), .val (.int qc), .val (.ref b6), .val (.int v9), .val (.int v10), .val (.int (1 : Int32)), .val (.int (2 : Int32)), .val (.int v13), .val (.int v14), .val (.int (1 : Int32)), .unset]) rfl ?_
        show Steps p.tables e below (T42.setTop (mkF m 135 #[.val (.int p1), .val (.int p2), .val (.int p3), .val (.int p4), .val (.int p5), .val (.int qp), .val (.int sel), .val (.int qc), .val (.ref b6), .val (.int v9), .val (.int v10), .val (.int (1 : Int32)), .val (.int (2 : Int32)), .val (.int v13), .val (.int v14), .val (.int (1 : Int32)), .unset] [])) _
        refine XS.goto X42.here hx rfl (pc0 := 135) (pc' := 176) rfl (hb hby at_135) (by decide) (by decide) ?_
        simp only [if_pos c123, if_pos c129] at hd_ex
        rw [hd_ex] at k
        exact k
      ·
        show Steps p.tables e below (T42.setTop (mkF m 129 #[.val (.int p1), .val (.int p2), .val (.int p3), .val (.int p4), .val (.int p5), .val (.int qp), .val (.int sel), .val (.int qc), .val (.ref b6), .val (.int v9), .val (.int v10), .val (.int (1 : Int32)), .val (.int (2 : Int32)), .val (.int v13), .val (.int v14), .unset, .unset] [(.int p1), (.int qc)])) _
        refine XS.icmpYes X42.here hx rfl (pc0 := 129) (pc' := 138) rfl (hb hby at_129) rfl (feq c129).2 (by decide) (by decide) ?_
        show Steps p.tables e below (T42.setTop (mkF m 138 #[.val (.int p1), .val (.int p2), .val (.int p3), .val (.int p4), .val (.int p5), .val (.int qp), .val (.int sel), .val (.int qc), .val (.ref b6), .val (.int v9), .val (.int v10), .val (.int (1 : Int32)), .val (.int (2 : Int32)), .val (.int v13), .val (.int v14), .unset, .unset] [])) _
        refine XS.iload X42.here hx rfl (hb hby at_138) rfl ?_
        show Steps p.tables e below (T42.setTop (mkF m 140 #[.val (.int p1), .val (.int p2), .val (.int p3), .val (.int p4), .val (.int p5), .val (.int qp), .val (.int sel), .val (.int qc), .val (.ref b6), .val (.int v9), .val (.int v10), .val (.int (1 : Int32)), .val (.int (2 : Int32)), .val (.int v13), .val (.int v14), .unset, .unset] [(.int qp)])) _
        refine XS.ifNo X42.here hx rfl (hb hby at_140) rfl ((if0 _ _).trans (teq c123).2) ?_
        show Steps p.tables e below (T42.setTop (mkF m 143 #[.val (.int p1), .val (.int p2), .val (.int p3), .val (.int p4), .val (.int p5), .val (.int qp), .val (.int sel), .val (.int qc), .val (.ref b6), .val (.int v9), .val (.int v10), .val (.int (1 : Int32)), .val (.int (2 : Int32)), .val (.int v13), .val (.int v14), .unset, .unset] [])) _
        refine XS.iload X42.here hx rfl (hb hby at_143) rfl ?_
        show Steps p.tables e below (T42.setTop (mkF m 145 #[.val (.int p1), .val (.int p2), .val (.int p3), .val (.int p4), .val (.int p5), .val (.int qp), .val (.int sel), .val (.int qc), .val (.ref b6), .val (.int v9), .val (.int v10), .val (.int (1 : Int32)), .val (.int (2 : Int32)), .val (.int v13), .val (.int v14), .unset, .unset] [(.int qc)])) _
        refine XS.iloadN X42.here hx rfl (hb hby at_145) rfl ?_
        by_cases c146 : qc = p3
        ·
          show Steps p.tables e below (T42.setTop (mkF m 146 #[.val (.int p1), .val (.int p2), .val (.int p3), .val (.int p4), .val (.int p5), .val (.int qp), .val (.int sel), .val (.int qc), .val (.ref b6), .val (.int v9), .val (.int v10), .val (.int (1 : Int32)), .val (.int (2 : Int32)), .val (.int v13), .val (.int v14), .unset, .unset] [(.int p3), (.int qc)])) _
          refine XS.icmpNo X42.here hx rfl (hb hby at_146) rfl (teq c146).2 ?_
          show Steps p.tables e below (T42.setTop (mkF m 149 #[.val (.int p1), .val (.int p2), .val (.int p3), .val (.int p4), .val (.int p5), .val (.int qp), .val (.int sel), .val (.int qc), .val (.ref b6), .val (.int v9), .val (.int v10), .val (.int (1 : Int32)), .val (.int (2 : Int32)), .val (.int v13), .val (.int v14), .unset, .unset] [])) _
          refine XS.iconst X42.here hx rfl (hb hby at_149) ?_
          show Steps p.tables e below (T42.setTop (mkF m 150 #[.val (.int p1), .val (.int p2), .val (.int p3), .val (.int p4), .val (.int p5), .val (.int qp), .val (.int sel), .val (.int qc), .val (.ref b6), .val (.int v9), .val (.int v10), .val (.int (1 : Int32)), .val (.int (2 : Int32)), .val (.int v13), .val (.int v14), .unset, .unset] [(.int (3 : Int32))])) _
          refine XS.istore X42.here hx rfl (hb hby at_150) rfl (l' := #[.val (.int p1), .val (.int p2), .val (.int p3), .val (.int p4), .val (.int p5), .val (.int qp), .val (.int sel), .val (.int qc), .val (.ref b6), .val (.int v9), .val (.int v10), .val (.int (1 : Int32)), .val (.int (2 : Int32)), .val (.int v13), .val (.int v14), .val (.int (3 : Int32)), .unset]) rfl ?_
          show Steps p.tables e below (T42.setTop (mkF m 152 #[.val (.int p1), .val (.int p2), .val (.int p3), .val (.int p4), .val (.int p5), .val (.int qp), .val (.int sel), .val (.int qc), .val (.ref b6), .val (.int v9), .val (.int v10), .val (.int (1 : Int32)), .val (.int (2 : Int32)), .val (.int v13), .val (.int v14), .val (.int (3 : Int32)), .unset] [])) _
          refine XS.goto X42.here hx rfl (pc0 := 152) (pc' := 176) rfl (hb hby at_152) (by decide) (by decide) ?_
          simp only [if_pos c123, if_neg c129, if_pos c146] at hd_ex
          rw [hd_ex] at k
          exact k
        ·
          show Steps p.tables e below (T42.setTop (mkF m 146 #[.val (.int p1), .val (.int p2), .val (.int p3), .val (.int p4), .val (.int p5), .val (.int qp), .val (.int sel), .val (.int qc), .val (.ref b6), .val (.int v9), .val (.int v10), .val (.int (1 : Int32)), .val (.int (2 : Int32)), .val (.int v13), .val (.int v14), .unset, .unset] [(.int p3), (.int qc)])) _
          refine XS.icmpYes X42.here hx rfl (pc0 := 146) (pc' := 155) rfl (hb hby at_146) rfl (feq c146).2 (by decide) (by decide) ?_
          show Steps p.tables e below (T42.setTop (mkF m 155 #[.val (.int p1), .val (.int p2), .val (.int p3), .val (.int p4), .val (.int p5), .val (.int qp), .val (.int sel), .val (.int qc), .val (.ref b6), .val (.int v9), .val (.int v10), .val (.int (1 : Int32)), .val (.int (2 : Int32)), .val (.int v13), .val (.int v14), .unset, .unset] [])) _
          refine XS.iload X42.here hx rfl (hb hby at_155) rfl ?_
          show Steps p.tables e below (T42.setTop (mkF m 157 #[.val (.int p1), .val (.int p2), .val (.int p3), .val (.int p4), .val (.int p5), .val (.int qp), .val (.int sel), .val (.int qc), .val (.ref b6), .val (.int v9), .val (.int v10), .val (.int (1 : Int32)), .val (.int (2 : Int32)), .val (.int v13), .val (.int v14), .unset, .unset] [(.int qp)])) _
          refine XS.iconst X42.here hx rfl (hb hby at_157) ?_
          by_cases c158 : qp = (1 : Int32)
          ·
            show Steps p.tables e below (T42.setTop (mkF m 158 #[.val (.int p1), .val (.int p2), .val (.int p3), .val (.int p4), .val (.int p5), .val (.int qp), .val (.int sel), .val (.int qc), .val (.ref b6), .val (.int v9), .val (.int v10), .val (.int (1 : Int32)), .val (.int (2 : Int32)), .val (.int v13), .val (.int v14), .unset, .unset] [(.int (1 : Int32)), (.int qp)])) _
            refine XS.icmpNo X42.here hx rfl (hb hby at_158) rfl (teq c158).2 ?_
            show Steps p.tables e below (T42.setTop (mkF m 161 #[.val (.int p1), .val (.int p2), .val (.int p3), .val (.int p4), .val (.int p5), .val (.int qp), .val (.int sel), .val (.int qc), .val (.ref b6), .val (.int v9), .val (.int v10), .val (.int (1 : Int32)), .val (.int (2 : Int32)), .val (.int v13), .val (.int v14), .unset, .unset] [])) _
            refine XS.iload X42.here hx rfl (hb hby at_161) rfl ?_
            show Steps p.tables e below (T42.setTop (mkF m 163 #[.val (.int p1), .val (.int p2), .val (.int p3), .val (.int p4), .val (.int p5), .val (.int qp), .val (.int sel), .val (.int qc), .val (.ref b6), .val (.int v9), .val (.int v10), .val (.int (1 : Int32)), .val (.int (2 : Int32)), .val (.int v13), .val (.int v14), .unset, .unset] [(.int qc)])) _
            refine XS.iloadN X42.here hx rfl (hb hby at_163) rfl ?_
            by_cases c164 : qc = p2
            ·
              show Steps p.tables e below (T42.setTop (mkF m 164 #[.val (.int p1), .val (.int p2), .val (.int p3), .val (.int p4), .val (.int p5), .val (.int qp), .val (.int sel), .val (.int qc), .val (.ref b6), .val (.int v9), .val (.int v10), .val (.int (1 : Int32)), .val (.int (2 : Int32)), .val (.int v13), .val (.int v14), .unset, .unset] [(.int p2), (.int qc)])) _
              refine XS.icmpNo X42.here hx rfl (hb hby at_164) rfl (teq c164).2 ?_
              show Steps p.tables e below (T42.setTop (mkF m 167 #[.val (.int p1), .val (.int p2), .val (.int p3), .val (.int p4), .val (.int p5), .val (.int qp), .val (.int sel), .val (.int qc), .val (.ref b6), .val (.int v9), .val (.int v10), .val (.int (1 : Int32)), .val (.int (2 : Int32)), .val (.int v13), .val (.int v14), .unset, .unset] [])) _
              refine XS.iconst X42.here hx rfl (hb hby at_167) ?_
              show Steps p.tables e below (T42.setTop (mkF m 168 #[.val (.int p1), .val (.int p2), .val (.int p3), .val (.int p4), .val (.int p5), .val (.int qp), .val (.int sel), .val (.int qc), .val (.ref b6), .val (.int v9), .val (.int v10), .val (.int (1 : Int32)), .val (.int (2 : Int32)), .val (.int v13), .val (.int v14), .unset, .unset] [(.int (2 : Int32))])) _
              refine XS.istore X42.here hx rfl (hb hby at_168) rfl (l' := #[.val (.int p1), .val (.int p2), .val (.int p3), .val (.int p4), .val (.int p5), .val (.int qp), .val (.int sel), .val (.int qc), .val (.ref b6), .val (.int v9), .val (.int v10), .val (.int (1 : Int32)), .val (.int (2 : Int32)), .val (.int v13), .val (.int v14), .val (.int (2 : Int32)), .unset]) rfl ?_
              show Steps p.tables e below (T42.setTop (mkF m 170 #[.val (.int p1), .val (.int p2), .val (.int p3), .val (.int p4), .val (.int p5), .val (.int qp), .val (.int sel), .val (.int qc), .val (.ref b6), .val (.int v9), .val (.int v10), .val (.int (1 : Int32)), .val (.int (2 : Int32)), .val (.int v13), .val (.int v14), .val (.int (2 : Int32)), .unset] [])) _
              refine XS.goto X42.here hx rfl (pc0 := 170) (pc' := 176) rfl (hb hby at_170) (by decide) (by decide) ?_
              simp only [if_pos c123, if_neg c129, if_neg c146, if_pos c158, if_pos c164] at hd_ex
              rw [hd_ex] at k
              exact k
            ·
              show Steps p.tables e below (T42.setTop (mkF m 164 #[.val (.int p1), .val (.int p2), .val (.int p3), .val (.int p4), .val (.int p5), .val (.int qp), .val (.int sel), .val (.int qc), .val (.ref b6), .val (.int v9), .val (.int v10), .val (.int (1 : Int32)), .val (.int (2 : Int32)), .val (.int v13), .val (.int v14), .unset, .unset] [(.int p2), (.int qc)])) _
              refine XS.icmpYes X42.here hx rfl (pc0 := 164) (pc' := 173) rfl (hb hby at_164) rfl (feq c164).2 (by decide) (by decide) ?_
              show Steps p.tables e below (T42.setTop (mkF m 173 #[.val (.int p1), .val (.int p2), .val (.int p3), .val (.int p4), .val (.int p5), .val (.int qp), .val (.int sel), .val (.int qc), .val (.ref b6), .val (.int v9), .val (.int v10), .val (.int (1 : Int32)), .val (.int (2 : Int32)), .val (.int v13), .val (.int v14), .unset, .unset] [])) _
              refine XS.iconst X42.here hx rfl (hb hby at_173) ?_
              show Steps p.tables e below (T42.setTop (mkF m 174 #[.val (.int p1), .val (.int p2), .val (.int p3), .val (.int p4), .val (.int p5), .val (.int qp), .val (.int sel), .val (.int qc), .val (.ref b6), .val (.int v9), .val (.int v10), .val (.int (1 : Int32)), .val (.int (2 : Int32)), .val (.int v13), .val (.int v14), .unset, .unset] [(.int (-1 : Int32))])) _
              refine XS.istore X42.here hx rfl (hb hby at_174) rfl (l' := #[.val (.int p1), .val (.int p2), .val (.int p3), .val (.int p4), .val (.int p5), .val (.int qp), .val (.int sel), .val (.int qc), .val (.ref b6), .val (.int v9), .val (.int v10), .val (.int (1 : Int32)), .val (.int (2 : Int32)), .val (.int v13), .val (.int v14), .val (.int (-1 : Int32)), .unset]) rfl ?_
              simp only [if_pos c123, if_neg c129, if_neg c146, if_pos c158, if_neg c164] at hd_ex
              rw [hd_ex] at k
              exact k
          ·
            show Steps p.tables e below (T42.setTop (mkF m 158 #[.val (.int p1), .val (.int p2), .val (.int p3), .val (.int p4), .val (.int p5), .val (.int qp), .val (.int sel), .val (.int qc), .val (.ref b6), .val (.int v9), .val (.int v10), .val (.int (1 : Int32)), .val (.int (2 : Int32)), .val (.int v13), .val (.int v14), .unset, .unset] [(.int (1 : Int32)), (.int qp)])) _
            refine XS.icmpYes X42.here hx rfl (pc0 := 158) (pc' := 173) rfl (hb hby at_158) rfl (feq c158).2 (by decide) (by decide) ?_
            show Steps p.tables e below (T42.setTop (mkF m 173 #[.val (.int p1), .val (.int p2), .val (.int p3), .val (.int p4), .val (.int p5), .val (.int qp), .val (.int sel), .val (.int qc), .val (.ref b6), .val (.int v9), .val (.int v10), .val (.int (1 : Int32)), .val (.int (2 : Int32)), .val (.int v13), .val (.int v14), .unset, .unset] [])) _
            refine XS.iconst X42.here hx rfl (hb hby at_173) ?_
            show Steps p.tables e below (T42.setTop (mkF m 174 #[.val (.int p1), .val (.int p2), .val (.int p3), .val (.int p4), .val (.int p5), .val (.int qp), .val (.int sel), .val (.int qc), .val (.ref b6), .val (.int v9), .val (.int v10), .val (.int (1 : Int32)), .val (.int (2 : Int32)), .val (.int v13), .val (.int v14), .unset, .unset] [(.int (-1 : Int32))])) _
            refine XS.istore X42.here hx rfl (hb hby at_174) rfl (l' := #[.val (.int p1), .val (.int p2), .val (.int p3), .val (.int p4), .val (.int p5), .val (.int qp), .val (.int sel), .val (.int qc), .val (.ref b6), .val (.int v9), .val (.int v10), .val (.int (1 : Int32)), .val (.int (2 : Int32)), .val (.int v13), .val (.int v14), .val (.int (-1 : Int32)), .unset]) rfl ?_
            simp only [if_pos c123, if_neg c129, if_neg c146, if_neg c158] at hd_ex
            rw [hd_ex] at k
            exact k
    ·
      show Steps p.tables e below (T42.setTop (mkF m 123 #[.val (.int p1), .val (.int p2), .val (.int p3), .val (.int p4), .val (.int p5), .val (.int qp), .val (.int sel), .val (.int qc), .val (.ref b6), .val (.int v9), .val (.int v10), .val (.int (1 : Int32)), .val (.int (2 : Int32)), .val (.int v13), .val (.int v14), .unset, .unset] [(.int qp)])) _
      refine XS.ifYes X42.here hx rfl (pc0 := 123) (pc' := 138) rfl (hb hby at_123) rfl ((if0 _ _).trans (feq c123).2) (by decide) (by decide) ?_
      show Steps p.tables e below (T42.setTop (mkF m 138 #[.val (.int p1), .val (.int p2), .val (.int p3), .val (.int p4), .val (.int p5), .val (.int qp), .val (.int sel), .val (.int qc), .val (.ref b6), .val (.int v9), .val (.int v10), .val (.int (1 : Int32)), .val (.int (2 : Int32)), .val (.int v13), .val (.int v14), .unset, .unset] [])) _
      refine XS.iload X42.here hx rfl (hb hby at_138) rfl ?_
      show Steps p.tables e below (T42.setTop (mkF m 140 #[.val (.int p1), .val (.int p2), .val (.int p3), .val (.int p4), .val (.int p5), .val (.int qp), .val (.int sel), .val (.int qc), .val (.ref b6), .val (.int v9), .val (.int v10), .val (.int (1 : Int32)), .val (.int (2 : Int32)), .val (.int v13), .val (.int v14), .unset, .unset] [(.int qp)])) _
      refine XS.ifYes X42.here hx rfl (pc0 := 140) (pc' := 155) rfl (hb hby at_140) rfl ((if0 _ _).trans (feq c123).2) (by decide) (by decide) ?_
      show Steps p.tables e below (T42.setTop (mkF m 155 #[.val (.int p1), .val (.int p2), .val (.int p3), .val (.int p4), .val (.int p5), .val (.int qp), .val (.int sel), .val (.int qc), .val (.ref b6), .val (.int v9), .val (.int v10), .val (.int (1 : Int32)), .val (.int (2 : Int32)), .val (.int v13), .val (.int v14), .unset, .unset] [])) _
      refine XS.iload X42.here hx rfl (hb hby at_155) rfl ?_
      show Steps p.tables e below (T42.setTop (mkF m 157 #[.val (.int p1), .val (.int p2), .val (.int p3), .val (.int p4), .val (.int p5), .val (.int qp), .val (.int sel), .val (.int qc), .val (.ref b6), .val (.int v9), .val (.int v10), .val (.int (1 : Int32)), .val (.int (2 : Int32)), .val (.int v13), .val (.int v14), .unset, .unset] [(.int qp)])) _
      refine XS.iconst X42.here hx rfl (hb hby at_157) ?_
      by_cases c158 : qp = (1 : Int32)
      ·
        show Steps p.tables e below (T42.setTop (mkF m 158 #[.val (.int p1), .val (.int p2), .val (.int p3), .val (.int p4), .val (.int p5), .val (.int qp), .val (.int sel), .val (.int qc), .val (.ref b6), .val (.int v9), .val (.int v10), .val (.int (1 : Int32)), .val (.int (2 : Int32)), .val (.int v13), .val (.int v14), .unset, .unset] [(.int (1 : Int32)), (.int qp)])) _
        refine XS.icmpNo X42.here hx rfl (hb hby at_158) rfl (teq c158).2 ?_
        show Steps p.tables e below (T42.setTop (mkF m 161 #[.val (.int p1), .val (.int p2), .val (.int p3), .val (.int p4), .val (.int p5), .val (.int qp), .val (.int sel), .val (.int qc), .val (.ref b6), .val (.int v9), .val (.int v10), .val (.int (1 : Int32)), .val (.int (2 : Int32)), .val (.int v13), .val (.int v14), .unset, .unset] [])) _
        refine XS.iload X42.here hx rfl (hb hby at_161) rfl ?_
        show Steps p.tables e below (T42.setTop (mkF m 163 #[.val (.int p1), .val (.int p2), .val (.int p3), .val (.int p4), .val (.int p5), .val (.int qp), .val (.int sel), .val (.int qc), .val (.ref b6), .val (.int v9), .val (.int v10), .val (.int (1 : Int32)), .val (.int (2 : Int32)), .val (.int v13), .val (.int v14), .unset, .unset] [(.int qc)])) _
        refine XS.iloadN X42.here hx rfl (hb hby at_163) rfl ?_
        by_cases c164 : qc = p2
        ·
          show Steps p.tables e below (T42.setTop (mkF m 164 #[.val (.int p1), .val (.int p2), .val (.int p3), .val (.int p4), .val (.int p5), .val (.int qp), .val (.int sel), .val (.int qc), .val (.ref b6), .val (.int v9), .val (.int v10), .val (.int (1 : Int32)), .val (.int (2 : Int32)), .val (.int v13), .val (.int v14), .unset, .unset] [(.int p2), (.int qc)])) _
          refine XS.icmpNo X42.here hx rfl (hb hby at_164) rfl (teq c164).2 ?_
          show Steps p.tables e below (T42.setTop (mkF m 167 #[.val (.int p1), .val (.int p2), .val (.int p3), .val (.int p4), .val (.int p5), .val (.int qp), .val (.int sel), .val (.int qc), .val (.ref b6), .val (.int v9), .val (.int v10), .val (.int (1 : Int32)), .val (.int (2 : Int32)), .val (.int v13), .val (.int v14), .unset, .unset] [])) _
          refine XS.iconst X42.here hx rfl (hb hby at_167) ?_
          show Steps p.tables e below (T42.setTop (mkF m 168 #[.val (.int p1), .val (.int p2), .val (.int p3), .val (.int p4), .val (.int p5), .val (.int qp), .val (.int sel), .val (.int qc), .val (.ref b6), .val (.int v9), .val (.int v10), .val (.int (1 : Int32)), .val (.int (2 : Int32)), .val (.int v13), .val (.int v14), .unset, .unset] [(.int (2 : Int32))])) _
          refine XS.istore X42.here hx rfl (hb hby at_168) rfl (l' := #[.val (.int p1), .val (.int p2), .val (.int p3), .val (.int p4), .val (.int p5), .val (.int qp), .val (.int sel), .val (.int qc), .val (.ref b6), .val (.int v9), .val (.int v10), .val (.int (1 : Int32)), .val (.int (2 : Int32)), .val (.int v13), .val (.int v14), .val (.int (2 : Int32)), .unset]) rfl ?_
          show Steps p.tables e below (T42.setTop (mkF m 170 #[.val (.int p1), .val (.int p2), .val (.int p3), .val (.int p4), .val (.int p5), .val (.int qp), .val (.int sel), .val (.int qc), .val (.ref b6), .val (.int v9), .val (.int v10), .val (.int (1 : Int32)), .val (.int (2 : Int32)), .val (.int v13), .val (.int v14), .val (.int (2 : Int32)), .unset] [])) _
          refine XS.goto X42.here hx rfl (pc0 := 170) (pc' := 176) rfl (hb hby at_170) (by decide) (by decide) ?_
          simp only [if_neg c123, if_pos c158, if_pos c164] at hd_ex
          rw [hd_ex] at k
          exact k
        ·
          show Steps p.tables e below (T42.setTop (mkF m 164 #[.val (.int p1), .val (.int p2), .val (.int p3), .val (.int p4), .val (.int p5), .val (.int qp), .val (.int sel), .val (.int qc), .val (.ref b6), .val (.int v9), .val (.int v10), .val (.int (1 : Int32)), .val (.int (2 : Int32)), .val (.int v13), .val (.int v14), .unset, .unset] [(.int p2), (.int qc)])) _
          refine XS.icmpYes X42.here hx rfl (pc0 := 164) (pc' := 173) rfl (hb hby at_164) rfl (feq c164).2 (by decide) (by decide) ?_
          show Steps p.tables e below (T42.setTop (mkF m 173 #[.val (.int p1), .val (.int p2), .val (.int p3), .val (.int p4), .val (.int p5), .val (.int qp), .val (.int sel), .val (.int qc), .val (.ref b6), .val (.int v9), .val (.int v10), .val (.int (1 : Int32)), .val (.int (2 : Int32)), .val (.int v13), .val (.int v14), .unset, .unset] [])) _
          refine XS.iconst X42.here hx rfl (hb hby at_173) ?_
          show Steps p.tables e below (T42.setTop (mkF m 174 #[.val (.int p1), .val (.int p2), .val (.int p3), .val (.int p4), .val (.int p5), .val (.int qp), .val (.int sel), .val (.int qc), .val (.ref b6), .val (.int v9), .val (.int v10), .val (.int (1 : Int32)), .val (.int (2 : Int32)), .val (.int v13), .val (.int v14), .unset, .unset] [(.int (-1 : Int32))])) _
          refine XS.istore X42.here hx rfl (hb hby at_174) rfl (l' := #[.val (.int p1), .val (.int p2), .val (.int p3), .val (.int p4), .val (.int p5), .val (.int qp), .val (.int sel), .val (.int qc), .val (.ref b6), .val (.int v9), .val (.int v10), .val (.int (1 : Int32)), .val (.int (2 : Int32)), .val (.int v13), .val (.int v14), .val (.int (-1 : Int32)), .unset]) rfl ?_
          simp only [if_neg c123, if_pos c158, if_neg c164] at hd_ex
          rw [hd_ex] at k
          exact k
      ·
        show Steps p.tables e below (T42.setTop (mkF m 158 #[.val (.int p1), .val (.int p2), .val (.int p3), .val (.int p4), .val (.int p5), .val (.int qp), .val (.int sel), .val (.int qc), .val (.ref b6), .val (.int v9), .val (.int v10), .val (.int (1 : Int32)), .val (.int (2 : Int32)), .val (.int v13), .val (.int v14), .unset, .unset] [(.int (1 : Int32)), (.int qp)])) _
        refine XS.icmpYes X42.here hx rfl (pc0 := 158) (pc' := 173) rfl (hb hby at_158) rfl (feq c158).2 (by decide) (by decide) ?_
        show Steps p.tables e below (T42.setTop (mkF m 173 #[.val (.int p1), .val (.int p2), .val (.int p3), .val (.int p4), .val (.int p5), .val (.int qp), .val (.int sel), .val (.int qc), .val (.ref b6), .val (.int v9), .val (.int v10), .val (.int (1 : Int32)), .val (.int (2 : Int32)), .val (.int v13), .val (.int v14), .unset, .unset] [])) _
        refine XS.iconst X42.here hx rfl (hb hby at_173) ?_
        show Steps p.tables e below (T42.setTop (mkF m 174 #[.val (.int p1), .val (.int p2), .val (.int p3), .val (.int p4), .val (.int p5), .val (.int qp), .val (.int sel), .val (.int qc), .val (.ref b6), .val (.int v9), .val (.int v10), .val (.int (1 : Int32)), .val (.int (2 : Int32)), .val (.int v13), .val (.int v14), .unset, .unset] [(.int (-1 : Int32))])) _
        refine XS.istore X42.here hx rfl (hb hby at_174) rfl (l' := #[.val (.int p1), .val (.int p2), .val (.int p3), .val (.int p4), .val (.int p5), .val (.int qp), .val (.int sel), .val (.int qc), .val (.ref b6), .val (.int v9), .val (.int v10), .val (.int (1 : Int32)), .val (.int (2 : Int32)), .val (.int v13), .val (.int v14), .val (.int (-1 : Int32)), .unset]) rfl ?_
        simp only [if_neg c123, if_neg c158] at hd_ex
        rw [hd_ex] at k
        exact k)
  obtain ⟨ec, hd_ec⟩ : ∃ z : Int32, z = (if p3 = p1 then (1 : Int32) else (3 : Int32)) := ⟨_, rfl⟩
  have k46 : ∀ t, Steps p.tables e below (T42.setTop (mkF m 188 #[.val (.int p1), .val (.int p2), .val (.int p3), .val (.int p4), .val (.int p5), .val (.int qp), .val (.int sel), .val (.int qc), .val (.ref b6), .val (.int v9), .val (.int v10), .val (.int (1 : Int32)), .val (.int (2 : Int32)), .val (.int v13), .val (.int v14), .val (.int ex), .val (.int ec)] [])) t → Steps p.tables e below (s₁.setTop (entryFrame m #[(.int p1), (.int p2), (.int p3), (.int p4), (.int p5)] maxLocals)) t := fun t k => k45 t (by
    show Steps p.tables e below (T42.setTop (mkF m 176 #[.val (.int p1), .val (.int p2), .val (.int p3), .val (.int p4), .val (.int p5), .val (.int qp), .val (.int sel), .val (.int qc), .val (.ref b6), .val (.int v9), .val (.int v10), .val (.int (1 : Int32)), .val (.int (2 : Int32)), .val (.int v13), .val (.int v14), .val (.int ex), .unset] [])) _
    refine XS.iloadN X42.here hx rfl (hb hby at_176) rfl ?_
    show Steps p.tables e below (T42.setTop (mkF m 177 #[.val (.int p1), .val (.int p2), .val (.int p3), .val (.int p4), .val (.int p5), .val (.int qp), .val (.int sel), .val (.int qc), .val (.ref b6), .val (.int v9), .val (.int v10), .val (.int (1 : Int32)), .val (.int (2 : Int32)), .val (.int v13), .val (.int v14), .val (.int ex), .unset] [(.int p3)])) _
    refine XS.iloadN X42.here hx rfl (hb hby at_177) rfl ?_
    by_cases c178 : p3 = p1
    ·
      show Steps p.tables e below (T42.setTop (mkF m 178 #[.val (.int p1), .val (.int p2), .val (.int p3), .val (.int p4), .val (.int p5), .val (.int qp), .val (.int sel), .val (.int qc), .val (.ref b6), .val (.int v9), .val (.int v10), .val (.int (1 : Int32)), .val (.int (2 : Int32)), .val (.int v13), .val (.int v14), .val (.int ex), .unset] [(.int p1), (.int p3)])) _
      refine XS.icmpNo X42.here hx rfl (hb hby at_178) rfl (teq c178).2 ?_
      show Steps p.tables e below (T42.setTop (mkF m 181 #[.val (.int p1), .val (.int p2), .val (.int p3), .val (.int p4), .val (.int p5), .val (.int qp), .val (.int sel), .val (.int qc), .val (.ref b6), .val (.int v9), .val (.int v10), .val (.int (1 : Int32)), .val (.int (2 : Int32)), .val (.int v13), .val (.int v14), .val (.int ex), .unset] [])) _
      refine XS.iconst X42.here hx rfl (hb hby at_181) ?_
      show Steps p.tables e below (T42.setTop (mkF m 182 #[.val (.int p1), .val (.int p2), .val (.int p3), .val (.int p4), .val (.int p5), .val (.int qp), .val (.int sel), .val (.int qc), .val (.ref b6), .val (.int v9), .val (.int v10), .val (.int (1 : Int32)), .val (.int (2 : Int32)), .val (.int v13), .val (.int v14), .val (.int ex), .unset] [(.int (1 : Int32))])) _
      refine XS.goto X42.here hx rfl (pc0 := 182) (pc' := 186) rfl (hb hby at_182) (by decide) (by decide) ?_
      show Steps p.tables e below (T42.setTop (mkF m 186 #[.val (.int p1), .val (.int p2), .val (.int p3), .val (.int p4), .val (.int p5), .val (.int qp), .val (.int sel), .val (.int qc), .val (.ref b6), .val (.int v9), .val (.int v10), .val (.int (1 : Int32)), .val (.int (2 : Int32)), .val (.int v13), .val (.int v14), .val (.int ex), .unset] [(.int (1 : Int32))])) _
      refine XS.istore X42.here hx rfl (hb hby at_186) rfl (l' := #[.val (.int p1), .val (.int p2), .val (.int p3), .val (.int p4), .val (.int p5), .val (.int qp), .val (.int sel), .val (.int qc), .val (.ref b6), .val (.int v9), .val (.int v10), .val (.int (1 : Int32)), .val (.int (2 : Int32)), .val (.int v13), .val (.int v14), .val (.int ex), .val (.int (1 : Int32))]) rfl ?_
      simp only [if_pos c178] at hd_ec
      rw [hd_ec] at k
      exact k
    ·
      show Steps p.tables e below (T42.setTop (mkF m 178 #[.val (.int p1), .val (.int p2), .val (.int p3), .val (.int p4), .val (.int p5), .val (.int qp), .val (.int sel), .val (.int qc), .val (.ref b6), .val (.int v9), .val (.int v10), .val (.int (1 : Int32)), .val (.int (2 : Int32)), .val (.int v13), .val (.int v14), .val (.int ex), .unset] [(.int p1), (.int p3)])) _
      refine XS.icmpYes X42.here hx rfl (pc0 := 178) (pc' := 185) rfl (hb hby at_178) rfl (feq c178).2 (by decide) (by decide) ?_
      show Steps p.tables e below (T42.setTop (mkF m 185 #[.val (.int p1), .val (.int p2), .val (.int p3), .val (.int p4), .val (.int p5), .val (.int qp), .val (.int sel), .val (.int qc), .val (.ref b6), .val (.int v9), .val (.int v10), .val (.int (1 : Int32)), .val (.int (2 : Int32)), .val (.int v13), .val (.int v14), .val (.int ex), .unset] [])) _
      refine XS.iconst X42.here hx rfl (hb hby at_185) ?_
      show Steps p.tables e below (T42.setTop (mkF m 186 #[.val (.int p1), .val (.int p2), .val (.int p3), .val (.int p4), .val (.int p5), .val (.int qp), .val (.int sel), .val (.int qc), .val (.ref b6), .val (.int v9), .val (.int v10), .val (.int (1 : Int32)), .val (.int (2 : Int32)), .val (.int v13), .val (.int v14), .val (.int ex), .unset] [(.int (3 : Int32))])) _
      refine XS.istore X42.here hx rfl (hb hby at_186) rfl (l' := #[.val (.int p1), .val (.int p2), .val (.int p3), .val (.int p4), .val (.int p5), .val (.int qp), .val (.int sel), .val (.int qc), .val (.ref b6), .val (.int v9), .val (.int v10), .val (.int (1 : Int32)), .val (.int (2 : Int32)), .val (.int v13), .val (.int v14), .val (.int ex), .val (.int (3 : Int32))]) rfl ?_
      simp only [if_neg c178] at hd_ec
      rw [hd_ec] at k
      exact k)
  have j1 := own_key_inj qp qc 0 p1 qp0.1 qp0.2 o0 o1
  have j2 := own_key_inj qp qc 1 p2 qp0.1 qp0.2 o2 o3
  have j3 := own_key_inj qp qc 0 p3 qp0.1 qp0.2 o0 o1
  have j4 := own_key_inj 0 p3 0 p1 o0 o1 o0 o1
  have w1 : v13 = ec := by
    rw [hd_v13, t13, hd_ec]; simp only [j4, true_and]
  have w2 : v14 = ex := by
    rw [hd_v14, t15, hd_ex]; exact own_got j1 j2 j3
  have k48 : ∀ t, Steps p.tables e below (T42.setTop (mkF m 231 #[.val (.int p1), .val (.int p2), .val (.int p3), .val (.int p4), .val (.int p5), .val (.int qp), .val (.int sel), .val (.int qc), .val (.ref b6), .val (.int v9), .val (.int v10), .val (.int (1 : Int32)), .val (.int (2 : Int32)), .val (.int v13), .val (.int v14), .val (.int ex), .val (.int ec)] [(.int (1 : Int32))])) t → Steps p.tables e below (s₁.setTop (entryFrame m #[(.int p1), (.int p2), (.int p3), (.int p4), (.int p5)] maxLocals)) t := fun t k => k46 t (by
    show Steps p.tables e below (T42.setTop (mkF m 188 #[.val (.int p1), .val (.int p2), .val (.int p3), .val (.int p4), .val (.int p5), .val (.int qp), .val (.int sel), .val (.int qc), .val (.ref b6), .val (.int v9), .val (.int v10), .val (.int (1 : Int32)), .val (.int (2 : Int32)), .val (.int v13), .val (.int v14), .val (.int ex), .val (.int ec)] [])) _
    refine XS.iload X42.here hx rfl (hb hby at_188) rfl ?_
    show Steps p.tables e below (T42.setTop (mkF m 190 #[.val (.int p1), .val (.int p2), .val (.int p3), .val (.int p4), .val (.int p5), .val (.int qp), .val (.int sel), .val (.int qc), .val (.ref b6), .val (.int v9), .val (.int v10), .val (.int (1 : Int32)), .val (.int (2 : Int32)), .val (.int v13), .val (.int v14), .val (.int ex), .val (.int ec)] [(.int v9)])) _
    refine XS.iconst X42.here hx rfl (hb hby at_190) ?_
    show Steps p.tables e below (T42.setTop (mkF m 191 #[.val (.int p1), .val (.int p2), .val (.int p3), .val (.int p4), .val (.int p5), .val (.int qp), .val (.int sel), .val (.int qc), .val (.ref b6), .val (.int v9), .val (.int v10), .val (.int (1 : Int32)), .val (.int (2 : Int32)), .val (.int v13), .val (.int v14), .val (.int ex), .val (.int ec)] [(.int (-1 : Int32)), (.int v9)])) _
    refine XS.icmpNo X42.here hx rfl (hb hby at_191) rfl (teq (hd_v9.trans (t2 _))).2 ?_
    show Steps p.tables e below (T42.setTop (mkF m 194 #[.val (.int p1), .val (.int p2), .val (.int p3), .val (.int p4), .val (.int p5), .val (.int qp), .val (.int sel), .val (.int qc), .val (.ref b6), .val (.int v9), .val (.int v10), .val (.int (1 : Int32)), .val (.int (2 : Int32)), .val (.int v13), .val (.int v14), .val (.int ex), .val (.int ec)] [])) _
    refine XS.iload X42.here hx rfl (hb hby at_194) rfl ?_
    show Steps p.tables e below (T42.setTop (mkF m 196 #[.val (.int p1), .val (.int p2), .val (.int p3), .val (.int p4), .val (.int p5), .val (.int qp), .val (.int sel), .val (.int qc), .val (.ref b6), .val (.int v9), .val (.int v10), .val (.int (1 : Int32)), .val (.int (2 : Int32)), .val (.int v13), .val (.int v14), .val (.int ex), .val (.int ec)] [(.int v10)])) _
    refine XS.iconst X42.here hx rfl (hb hby at_196) ?_
    show Steps p.tables e below (T42.setTop (mkF m 197 #[.val (.int p1), .val (.int p2), .val (.int p3), .val (.int p4), .val (.int p5), .val (.int qp), .val (.int sel), .val (.int qc), .val (.ref b6), .val (.int v9), .val (.int v10), .val (.int (1 : Int32)), .val (.int (2 : Int32)), .val (.int v13), .val (.int v14), .val (.int ex), .val (.int ec)] [(.int (-1 : Int32)), (.int v10)])) _
    refine XS.icmpNo X42.here hx rfl (hb hby at_197) rfl (teq (hd_v10.trans (t2 _))).2 ?_
    show Steps p.tables e below (T42.setTop (mkF m 200 #[.val (.int p1), .val (.int p2), .val (.int p3), .val (.int p4), .val (.int p5), .val (.int qp), .val (.int sel), .val (.int qc), .val (.ref b6), .val (.int v9), .val (.int v10), .val (.int (1 : Int32)), .val (.int (2 : Int32)), .val (.int v13), .val (.int v14), .val (.int ex), .val (.int ec)] [])) _
    refine XS.iload X42.here hx rfl (hb hby at_200) rfl ?_
    show Steps p.tables e below (T42.setTop (mkF m 202 #[.val (.int p1), .val (.int p2), .val (.int p3), .val (.int p4), .val (.int p5), .val (.int qp), .val (.int sel), .val (.int qc), .val (.ref b6), .val (.int v9), .val (.int v10), .val (.int (1 : Int32)), .val (.int (2 : Int32)), .val (.int v13), .val (.int v14), .val (.int ex), .val (.int ec)] [(.int (1 : Int32))])) _
    refine XS.iconst X42.here hx rfl (hb hby at_202) ?_
    show Steps p.tables e below (T42.setTop (mkF m 203 #[.val (.int p1), .val (.int p2), .val (.int p3), .val (.int p4), .val (.int p5), .val (.int qp), .val (.int sel), .val (.int qc), .val (.ref b6), .val (.int v9), .val (.int v10), .val (.int (1 : Int32)), .val (.int (2 : Int32)), .val (.int v13), .val (.int v14), .val (.int ex), .val (.int ec)] [(.int (1 : Int32)), (.int (1 : Int32))])) _
    refine XS.icmpNo X42.here hx rfl (hb hby at_203) rfl (teq rfl).2 ?_
    show Steps p.tables e below (T42.setTop (mkF m 206 #[.val (.int p1), .val (.int p2), .val (.int p3), .val (.int p4), .val (.int p5), .val (.int qp), .val (.int sel), .val (.int qc), .val (.ref b6), .val (.int v9), .val (.int v10), .val (.int (1 : Int32)), .val (.int (2 : Int32)), .val (.int v13), .val (.int v14), .val (.int ex), .val (.int ec)] [])) _
    refine XS.iload X42.here hx rfl (hb hby at_206) rfl ?_
    show Steps p.tables e below (T42.setTop (mkF m 208 #[.val (.int p1), .val (.int p2), .val (.int p3), .val (.int p4), .val (.int p5), .val (.int qp), .val (.int sel), .val (.int qc), .val (.ref b6), .val (.int v9), .val (.int v10), .val (.int (1 : Int32)), .val (.int (2 : Int32)), .val (.int v13), .val (.int v14), .val (.int ex), .val (.int ec)] [(.int (2 : Int32))])) _
    refine XS.iconst X42.here hx rfl (hb hby at_208) ?_
    show Steps p.tables e below (T42.setTop (mkF m 209 #[.val (.int p1), .val (.int p2), .val (.int p3), .val (.int p4), .val (.int p5), .val (.int qp), .val (.int sel), .val (.int qc), .val (.ref b6), .val (.int v9), .val (.int v10), .val (.int (1 : Int32)), .val (.int (2 : Int32)), .val (.int v13), .val (.int v14), .val (.int ex), .val (.int ec)] [(.int (2 : Int32)), (.int (2 : Int32))])) _
    refine XS.icmpNo X42.here hx rfl (hb hby at_209) rfl (teq rfl).2 ?_
    show Steps p.tables e below (T42.setTop (mkF m 212 #[.val (.int p1), .val (.int p2), .val (.int p3), .val (.int p4), .val (.int p5), .val (.int qp), .val (.int sel), .val (.int qc), .val (.ref b6), .val (.int v9), .val (.int v10), .val (.int (1 : Int32)), .val (.int (2 : Int32)), .val (.int v13), .val (.int v14), .val (.int ex), .val (.int ec)] [])) _
    refine XS.iload X42.here hx rfl (hb hby at_212) rfl ?_
    show Steps p.tables e below (T42.setTop (mkF m 214 #[.val (.int p1), .val (.int p2), .val (.int p3), .val (.int p4), .val (.int p5), .val (.int qp), .val (.int sel), .val (.int qc), .val (.ref b6), .val (.int v9), .val (.int v10), .val (.int (1 : Int32)), .val (.int (2 : Int32)), .val (.int v13), .val (.int v14), .val (.int ex), .val (.int ec)] [(.int v13)])) _
    refine XS.iload X42.here hx rfl (hb hby at_214) rfl ?_
    show Steps p.tables e below (T42.setTop (mkF m 216 #[.val (.int p1), .val (.int p2), .val (.int p3), .val (.int p4), .val (.int p5), .val (.int qp), .val (.int sel), .val (.int qc), .val (.ref b6), .val (.int v9), .val (.int v10), .val (.int (1 : Int32)), .val (.int (2 : Int32)), .val (.int v13), .val (.int v14), .val (.int ex), .val (.int ec)] [(.int ec), (.int v13)])) _
    refine XS.icmpNo X42.here hx rfl (hb hby at_216) rfl (teq w1).2 ?_
    show Steps p.tables e below (T42.setTop (mkF m 219 #[.val (.int p1), .val (.int p2), .val (.int p3), .val (.int p4), .val (.int p5), .val (.int qp), .val (.int sel), .val (.int qc), .val (.ref b6), .val (.int v9), .val (.int v10), .val (.int (1 : Int32)), .val (.int (2 : Int32)), .val (.int v13), .val (.int v14), .val (.int ex), .val (.int ec)] [])) _
    refine XS.iload X42.here hx rfl (hb hby at_219) rfl ?_
    show Steps p.tables e below (T42.setTop (mkF m 221 #[.val (.int p1), .val (.int p2), .val (.int p3), .val (.int p4), .val (.int p5), .val (.int qp), .val (.int sel), .val (.int qc), .val (.ref b6), .val (.int v9), .val (.int v10), .val (.int (1 : Int32)), .val (.int (2 : Int32)), .val (.int v13), .val (.int v14), .val (.int ex), .val (.int ec)] [(.int v14)])) _
    refine XS.iload X42.here hx rfl (hb hby at_221) rfl ?_
    show Steps p.tables e below (T42.setTop (mkF m 223 #[.val (.int p1), .val (.int p2), .val (.int p3), .val (.int p4), .val (.int p5), .val (.int qp), .val (.int sel), .val (.int qc), .val (.ref b6), .val (.int v9), .val (.int v10), .val (.int (1 : Int32)), .val (.int (2 : Int32)), .val (.int v13), .val (.int v14), .val (.int ex), .val (.int ec)] [(.int ex), (.int v14)])) _
    refine XS.icmpNo X42.here hx rfl (hb hby at_223) rfl (teq w2).2 ?_
    show Steps p.tables e below (T42.setTop (mkF m 226 #[.val (.int p1), .val (.int p2), .val (.int p3), .val (.int p4), .val (.int p5), .val (.int qp), .val (.int sel), .val (.int qc), .val (.ref b6), .val (.int v9), .val (.int v10), .val (.int (1 : Int32)), .val (.int (2 : Int32)), .val (.int v13), .val (.int v14), .val (.int ex), .val (.int ec)] [])) _
    refine XS.iconst X42.here hx rfl (hb hby at_226) ?_
    show Steps p.tables e below (T42.setTop (mkF m 227 #[.val (.int p1), .val (.int p2), .val (.int p3), .val (.int p4), .val (.int p5), .val (.int qp), .val (.int sel), .val (.int qc), .val (.ref b6), .val (.int v9), .val (.int v10), .val (.int (1 : Int32)), .val (.int (2 : Int32)), .val (.int v13), .val (.int v14), .val (.int ex), .val (.int ec)] [(.int (1 : Int32))])) _
    refine XS.goto X42.here hx rfl (pc0 := 227) (pc' := 231) rfl (hb hby at_227) (by decide) (by decide) ?_
    exact k)
  obtain ⟨fs, hr, hrun, hended, hW, hsame⟩ := X42.leave (v := some (.int (1 : Int32))) (fun h => by rw [Bd.returns] at h; cases h) (BodyLoose.notSynchronized Bd)
  refine ⟨_, _, k48 _ ?_, hrun, hended, _, _, rfl, ?_, ⟨_, rfl⟩, hW, hsame.mono (by decide) (by decide)⟩
  · show Steps p.tables e below (T42.setTop (mkF m 231 #[.val (.int p1), .val (.int p2), .val (.int p3), .val (.int p4), .val (.int p5), .val (.int qp), .val (.int sel), .val (.int qc), .val (.ref b6), .val (.int v9), .val (.int v10), .val (.int (1 : Int32)), .val (.int (2 : Int32)), .val (.int v13), .val (.int v14), .val (.int ex), .val (.int ec)] [(.int (1 : Int32))])) _
    exact retN X42 hx (t := .boolean) Bd.returns (by simp) (hb hby at_231) hr
  ·
    show Qlaw _ p1 p2 p3 p4 p5 h0 n0 _ T42.heap _
    rw [u3]
    exact ⟨rfl, N42⟩
set_option maxRecDepth 65536 in
set_option maxHeartbeats 40000000 in
theorem comes_1 {Post : Tables → Env → Array Value → State → Outcome → State → Prop} (hpost : ∀ tb e args s v u, (limb_1_1.after args s (.returned v) u = true ∧ limb_1_2.after args s (.returned v) u = true ∧ True) → FrameEnd s (.returned v) u (Jvm.fieldLocs frame_1_writes args s ++ Jvm.arrayLocs frame_1_arrays args s ++ Jvm.staticLocs frame_1_statics s) 16 192 → Post tb e args s (.returned v) u) :
    ArmFor flags0 classFile x code maxLocals ret World_1 tables_1 room_1 Calls_1 rest_1 Pre_1 Post := by
  intro l hfl _ _ p e ha hc hk s m args below hf hA hF happ hP
  obtain ⟨hcalls, hrest, hpre⟩ := hP
  obtain ⟨-, -, -, hnamed, -, -, -, hat⟩ := (Spec.applies_iff hf).mp happ
  obtain ⟨hg, hn⟩ := and_e (Cond.before_iff.mp (show (Jvm.Cond.and given_1 narrow_1).before args s = true from hpre))
  obtain ⟨g1, g2⟩ := and_e hg
  obtain ⟨g3, g4⟩ := and_e g2
  obtain ⟨g5, g6⟩ := and_e g4
  obtain ⟨g7, g8⟩ := and_e g6
  obtain ⟨g9, g10⟩ := and_e g8
  obtain ⟨w0, w1, w2, w3, w4, rfl⟩ : ∃ w0 w1 w2 w3 w4 : Value, args = #[w0, w1, w2, w3, w4] := by
    have hs : args.size = 5 := by simpa [Cond.value, given_1] using g1
    obtain ⟨L⟩ := args
    match L, hs with
    | [w0, w1, w2, w3, w4], _ => exact ⟨w0, w1, w2, w3, w4, rfl⟩
  have hw := fun d (hd : d ∈ tables_1) => atoms_spec (ws := Jvm.Cond.code x code maxLocals ret :: tables_1) hat d (List.mem_cons_of_mem _ hd)
  have hfit : Fit s := fun {y c} hc i hi => by
    obtain ⟨ha, rfl⟩ := Array.getElem?_eq_some_iff.mp hc
    have q := List.all_eq_true.mp ((Array.all_eq_true_iff_forall_mem.mp hF) _ (Array.getElem_mem ha)) i (List.mem_range.mpr hi)
    simpa [Array.getElem?_eq_getElem hi] using q
  obtain ⟨i0, ei0⟩ := is_v g3
  obtain rfl : w0 = (.int i0) := Option.some.inj ei0
  obtain ⟨i1, ei1⟩ := is_v g5
  obtain rfl : w1 = (.int i1) := Option.some.inj ei1
  obtain ⟨i2, ei2⟩ := is_v g7
  obtain rfl : w2 = (.int i2) := Option.some.inj ei2
  obtain ⟨i3, ei3⟩ := is_v g9
  obtain rfl : w3 = (.int i3) := Option.some.inj ei3
  obtain ⟨i4, ei4⟩ := is_v g10
  obtain rfl : w4 = (.int i4) := Option.some.inj ei4
  obtain ⟨n, o, h1, h2, h3, _, L, rfl, ⟨rfl, N⟩, hq⟩ := rm_law l s _ hw tables_1 i0 i1 i2 i3 i4  s.heap s.heap.size (Nat.le_refl _)  p e ha hc hk s m _ below hf ((Spec.applies_iff_loose hf).mp happ).1 ⟨rfl, State.Warmed39.refl s, rfl⟩ trivial
  refine ⟨n, _, h1, h2, h3, hpost _ _ _ _ _ _ ⟨Cond.after_iff.mpr rfl, Cond.after_iff.mpr (eq_i res_at (Term.int_eval (1)) rfl), trivial⟩ ⟨hq.1, hq.2.1, (hq.2.2.sift fun y hy => Or.inr (N y hy)).mono (by decide) (by decide)⟩⟩
theorem main_1_1 : Claimed_1_1 := comes_1 fun _ _ _ _ _ _ h hF => ⟨h.1, hF⟩
theorem main_1_2 : Claimed_1_2 := comes_1 fun _ _ _ _ _ _ h hF => ⟨h.2.1, hF⟩
end Jvm.Pilot.@@N@@
namespace Jvm.Pilot.@@N@@
open Jvm Jvm.ClassFile Sem Op Lib Jvm.Free Jvm.Stand Jvm.Pilot.@@N@@.Jvm.D
/-! MADE BY PROGRAM (witnessworld.py) out of the Statement's table words and the real class files: 18 classes; the members and pool entries that the words name. The judged class is class 1, her method 1. -/
namespace start1
open Jvm.ClassFile
def u (s : String) : CpInfo := .utf8 (stringToUtf16 s)
/-- a pool by its gaps: so many unusable entries, then the entry; so many at the end -/
def gap : Nat → List CpInfo → List CpInfo
  | 0, r => r
  | n + 1, r => .unusable :: gap n r
def poolList (es : List (Nat × CpInfo)) (last : Nat) : List CpInfo := es.foldr (fun e r => gap e.1 (e.2 :: r)) (gap last [])
def pool (es : List (Nat × CpInfo)) (last : Nat) : Array CpInfo := ⟨poolList es last⟩
def fileOf (pool : Array CpInfo) (this : Nat) (attrs : Array Attribute := #[]) (ms : Array MethodInfo := #[]) (fl : Nat := 33) (sup : Nat := 0) (ifs : Array Nat := #[]) (fds : Array FieldInfo := #[]) : ClassFile where
  minorVersion := 0
  majorVersion := 65
  constantPool := pool
  accessFlags := fl
  thisClass := this
  superClass := sup
  interfaces := ifs
  fields := fds
  methods := ms
  attributes := attrs
def plain (name : String) (sup : Option ClassId) : Class where
  name := name
  kind := .ordinary
  loader := none
  accessFlags := 33
  super := sup
  interfaces := #[]
  cf := none
  fields := #[]
  methods := #[]
  instanceTypes := #[]
  staticTypes := #[]
  resolved := #[]
  callSites := []
  init := .initialized
  statics := none
  mirror := none

def pool0 : Array CpInfo := pool [(5, u "<init>"), (0, u "()V"), (1, .class_ 10), (1, u "java/lang/Object")] 113

def k0c0 : Code := { maxStack := 0, maxLocals := 1, code := object_method_1_code, exceptionTable := #[], attributes := #[] }
def k0m0 : Method := { name := "<init>", desc := "()V", sig := { parameters := [], returnType := none }, accessFlags := 1, code := some k0c0 }
/-- java/lang/Object -/
def k0 : Class := { plain "java/lang/Object" none with
  accessFlags := 33
  interfaces := #[]
  cf := some (fileOf pool0 8 #[] #[{ accessFlags := 1, nameIndex := 5, descriptorIndex := 6, attributes := #[] }] 33 0 #[] #[])
  fields := #[]
  methods := #[k0m0]
  instanceTypes := #[]
  staticTypes := #[]
  resolved := Array.replicate 124 none
  statics := none }

def pool1 : Array CpInfo := pool [(2, .class_ 4), (0, .nameAndType 5 6), (0, u "java/lang/Object"), (0, u "<init>"), (0, u "()V"), (0, .class_ 8), (0, u "com/example/histories_to_cohorts/historiestocohorts/service/SetTrie"), (0, .methodref 7 3), (0, .methodref 7 11), (0, .nameAndType 12 13), (0, u "child"), (0, u "(II)I"), (0, .methodref 7 15), (0, .nameAndType 16 13), (0, u "addChild"), (0, .class_ 18), (0, u "com/example/histories_to_cohorts/historiestocohorts/service/SetTrieChildPinLaw"), (2, u "law"), (0, u "(IIIII)Z")] 3

def k1m0 : Method := { name := "<init>", desc := "()V", sig := { parameters := [], returnType := none }, accessFlags := 1, code := none }
def k1c1 : Code := { maxStack := 3, maxLocals := 17, code := code, exceptionTable := #[], attributes := #[] }
def k1m1 : Method := { name := "law", desc := "(IIIII)Z", sig := { parameters := [.int, .int, .int, .int, .int], returnType := some .boolean }, accessFlags := 9, code := some k1c1 }
/-- com/example/histories_to_cohorts/historiestocohorts/service/SetTrieChildPinLaw -/
def k1 : Class := { plain "com/example/histories_to_cohorts/historiestocohorts/service/SetTrieChildPinLaw" (some 0) with
  accessFlags := 49
  interfaces := #[]
  cf := some (fileOf pool1 17 #[] #[{ accessFlags := 1, nameIndex := 5, descriptorIndex := 6, attributes := #[] }, { accessFlags := 9, nameIndex := 21, descriptorIndex := 22, attributes := #[] }] 49 2 #[] #[])
  fields := #[]
  methods := #[k1m0, k1m1]
  instanceTypes := #[]
  staticTypes := #[]
  resolved := Array.replicate 26 none
  statics := none }

def pool2 : Array CpInfo := pool [(1, .methodref 2 3), (0, .class_ 4), (0, .nameAndType 5 6), (0, u "java/lang/Object"), (0, u "<init>"), (0, u "()V"), (0, .fieldref 8 9), (0, .class_ 10), (0, .nameAndType 11 12), (0, u "com/example/histories_to_cohorts/historiestocohorts/service/SetTrie"), (0, u "nodes"), (0, u "I"), (0, .methodref 8 14), (0, .nameAndType 15 16), (0, u "allocate"), (0, u "(I)V"), (0, .fieldref 8 18), (0, .nameAndType 19 20), (0, u "counts"), (0, u "[I"), (0, .methodref 8 22), (0, .nameAndType 23 24), (0, u "key"), (0, u "(II)J"), (0, .methodref 8 26), (0, .nameAndType 27 28), (0, u "probe"), (0, u "(J)I"), (0, .fieldref 8 30), (0, .nameAndType 31 32), (0, u "keys"), (0, u "[J"), (0, .long 18446744073709551615), (1, .fieldref 8 36), (0, .nameAndType 37 20), (0, u "children"), (1, .class_ 41), (1, u "java/util/Arrays"), (2, .long 4), (1, .long 3), (4, .long 4294967295), (1, .long 11400714819323198485), (1, .fieldref 8 56), (0, .nameAndType 57 12), (0, u "shift"), (0, .methodref 39 59), (0, .nameAndType 60 61), (0, u "fill"), (0, u "([JJ)V"), (0, .methodref 63 64), (0, .class_ 65), (0, .nameAndType 66 28), (0, u "java/lang/Long"), (0, u "numberOfLeadingZeros"), (8, u "ROOT"), (2, u "ABSENT"), (1, u "FREE"), (0, u "J"), (0, u "INITIAL_CAPACITY"), (1, u "MAX_CAPACITY"), (2, u "child"), (0, u "(II)I"), (1, u "addChild")] 8

def k2c0 : Code := { maxStack := 2, maxLocals := 1, code := prog_40_method_1_code, exceptionTable := #[], attributes := #[] }
def k2m0 : Method := { name := "<init>", desc := "()V", sig := { parameters := [], returnType := none }, accessFlags := 0, code := some k2c0 }
def k2c1 : Code := { maxStack := 4, maxLocals := 4, code := prog_40_method_2_code, exceptionTable := #[], attributes := #[] }
def k2m1 : Method := { name := "child", desc := "(II)I", sig := { parameters := [.int, .int], returnType := some .int }, accessFlags := 0, code := some k2c1 }
def k2c2 : Code := { maxStack := 6, maxLocals := 7, code := prog_40_method_3_code, exceptionTable := #[], attributes := #[] }
def k2m2 : Method := { name := "addChild", desc := "(II)I", sig := { parameters := [.int, .int], returnType := some .int }, accessFlags := 0, code := some k2c2 }
def k2c3 : Code := { maxStack := 6, maxLocals := 2, code := prog_40_method_6_code, exceptionTable := #[], attributes := #[] }
def k2m3 : Method := { name := "key", desc := "(II)J", sig := { parameters := [.int, .int], returnType := some .long }, accessFlags := 10, code := some k2c3 }
def k2c4 : Code := { maxStack := 4, maxLocals := 4, code := prog_40_method_7_code, exceptionTable := #[], attributes := #[] }
def k2m4 : Method := { name := "probe", desc := "(J)I", sig := { parameters := [.long], returnType := some .int }, accessFlags := 2, code := some k2c4 }
def k2c5 : Code := { maxStack := 3, maxLocals := 2, code := prog_40_method_8_code, exceptionTable := #[], attributes := #[] }
def k2m5 : Method := { name := "allocate", desc := "(I)V", sig := { parameters := [.int], returnType := none }, accessFlags := 2, code := some k2c5 }
/-- com/example/histories_to_cohorts/historiestocohorts/service/SetTrie -/
def k2 : Class := { plain "com/example/histories_to_cohorts/historiestocohorts/service/SetTrie" (some 0) with
  accessFlags := 48
  interfaces := #[]
  cf := some (fileOf pool2 8 #[] #[{ accessFlags := 0, nameIndex := 5, descriptorIndex := 6, attributes := #[] }, { accessFlags := 0, nameIndex := 87, descriptorIndex := 88, attributes := #[] }, { accessFlags := 0, nameIndex := 90, descriptorIndex := 88, attributes := #[] }, { accessFlags := 10, nameIndex := 23, descriptorIndex := 24, attributes := #[] }, { accessFlags := 2, nameIndex := 27, descriptorIndex := 28, attributes := #[] }, { accessFlags := 2, nameIndex := 15, descriptorIndex := 16, attributes := #[] }] 48 2 #[] #[{ accessFlags := 24, nameIndex := 75, descriptorIndex := 12, attributes := #[] }, { accessFlags := 24, nameIndex := 78, descriptorIndex := 12, attributes := #[] }, { accessFlags := 26, nameIndex := 80, descriptorIndex := 81, attributes := #[] }, { accessFlags := 26, nameIndex := 82, descriptorIndex := 12, attributes := #[] }, { accessFlags := 26, nameIndex := 84, descriptorIndex := 12, attributes := #[] }, { accessFlags := 2, nameIndex := 31, descriptorIndex := 32, attributes := #[] }, { accessFlags := 2, nameIndex := 37, descriptorIndex := 20, attributes := #[] }, { accessFlags := 2, nameIndex := 19, descriptorIndex := 20, attributes := #[] }, { accessFlags := 2, nameIndex := 11, descriptorIndex := 12, attributes := #[] }, { accessFlags := 2, nameIndex := 57, descriptorIndex := 12, attributes := #[] }])
  fields := #[{ name := "ROOT", type := .int, accessFlags := 24, slot := 0, constantValue := 0 }, { name := "ABSENT", type := .int, accessFlags := 24, slot := 1, constantValue := 0 }, { name := "FREE", type := .long, accessFlags := 26, slot := 2, constantValue := 0 }, { name := "INITIAL_CAPACITY", type := .int, accessFlags := 26, slot := 3, constantValue := 0 }, { name := "MAX_CAPACITY", type := .int, accessFlags := 26, slot := 4, constantValue := 0 }, { name := "keys", type := (.array .long), accessFlags := 2, slot := 0, constantValue := 0 }, { name := "children", type := (.array .int), accessFlags := 2, slot := 1, constantValue := 0 }, { name := "counts", type := (.array .int), accessFlags := 2, slot := 2, constantValue := 0 }, { name := "nodes", type := .int, accessFlags := 2, slot := 3, constantValue := 0 }, { name := "shift", type := .int, accessFlags := 2, slot := 4, constantValue := 0 }]
  methods := #[k2m0, k2m1, k2m2, k2m3, k2m4, k2m5]
  instanceTypes := #[(.array .long), (.array .int), (.array .int), .int, .int]
  staticTypes := #[.int, .int, .long, .int, .int]
  resolved := Array.replicate 99 none
  statics := none }

def pool3 : Array CpInfo := pool [(2, .class_ 4), (1, u "java/lang/Object"), (0, u "<init>"), (0, u "()V"), (7, .class_ 16), (1, u "java/util/Arrays"), (57, .class_ 76), (1, u "java/util/Arrays$NaturalOrder"), (36, .class_ 115), (1, u "java/util/Arrays$LegacyMergeSort"), (1, u "Z"), (257, .class_ 376), (0, u "java/util/Arrays$ArrayList"), (68, u "$assertionsDisabled"), (269, u "MIN_ARRAY_SORT_GRAN"), (0, u "I"), (2, u "INSERTIONSORT_THRESHOLD"), (120, u "fill"), (0, u "([JJ)V"), (133, .class_ 976), (0, u "java/util/Arrays$ArrayItr")] 52

def k3m0 : Method := { name := "<init>", desc := "()V", sig := { parameters := [], returnType := none }, accessFlags := 2, code := none }
def k3c1 : Code := { maxStack := 4, maxLocals := 5, code := jdk_65_method_101_code, exceptionTable := #[], attributes := #[] }
def k3m1 : Method := { name := "fill", desc := "([JJ)V", sig := { parameters := [(.array .long), .long], returnType := none }, accessFlags := 9, code := some k3c1 }
/-- java/util/Arrays -/
def k3 : Class := { plain "java/util/Arrays" (some 0) with
  accessFlags := 49
  interfaces := #[]
  cf := some (fileOf pool3 14 #[.nestMembers #[975, 375, 113, 74]] #[{ accessFlags := 2, nameIndex := 5, descriptorIndex := 6, attributes := #[] }, { accessFlags := 9, nameIndex := 840, descriptorIndex := 841, attributes := #[] }] 49 2 #[] #[{ accessFlags := 26, nameIndex := 715, descriptorIndex := 716, attributes := #[] }, { accessFlags := 26, nameIndex := 719, descriptorIndex := 716, attributes := #[] }, { accessFlags := 4120, nameIndex := 445, descriptorIndex := 117, attributes := #[] }])
  fields := #[{ name := "MIN_ARRAY_SORT_GRAN", type := .int, accessFlags := 26, slot := 0, constantValue := 0 }, { name := "INSERTIONSORT_THRESHOLD", type := .int, accessFlags := 26, slot := 1, constantValue := 0 }, { name := "$assertionsDisabled", type := .boolean, accessFlags := 4120, slot := 2, constantValue := 0 }]
  methods := #[k3m0, k3m1]
  instanceTypes := #[]
  staticTypes := #[.int, .int, .boolean]
  resolved := Array.replicate 1029 none
  statics := none }

def pool4 : Array CpInfo := pool [(1, .class_ 2), (0, u "java/io/Serializable"), (0, .class_ 4), (0, u "java/lang/Object")] 2

/-- java/io/Serializable -/
def k4 : Class := { plain "java/io/Serializable" (some 0) with
  accessFlags := 1537
  interfaces := #[]
  cf := some (fileOf pool4 1 #[] #[] 1537 3 #[] #[])
  fields := #[]
  methods := #[]
  instanceTypes := #[]
  staticTypes := #[]
  resolved := Array.replicate 7 none
  statics := none }

def pool5 : Array CpInfo := pool [(2, .class_ 4), (1, u "java/lang/Object"), (0, u "<init>"), (0, u "()V"), (1, .class_ 10), (1, u "java/lang/Number"), (2, .class_ 14), (0, u "java/io/Serializable"), (0, u "serialVersionUID"), (0, u "J")] 20

def k5m0 : Method := { name := "<init>", desc := "()V", sig := { parameters := [], returnType := none }, accessFlags := 1, code := none }
/-- java/lang/Number -/
def k5 : Class := { plain "java/lang/Number" (some 0) with
  accessFlags := 1057
  interfaces := #[4]
  cf := some (fileOf pool5 8 #[] #[{ accessFlags := 1, nameIndex := 5, descriptorIndex := 6, attributes := #[] }] 1057 2 #[13] #[{ accessFlags := 26, nameIndex := 15, descriptorIndex := 16, attributes := #[] }])
  fields := #[{ name := "serialVersionUID", type := .long, accessFlags := 26, slot := 0, constantValue := 0 }]
  methods := #[k5m0]
  instanceTypes := #[]
  staticTypes := #[.long]
  resolved := Array.replicate 37 none
  statics := none }

def pool6 : Array CpInfo := pool [(1, .class_ 2), (0, u "java/lang/Comparable"), (0, .class_ 4), (0, u "java/lang/Object")] 7

/-- java/lang/Comparable -/
def k6 : Class := { plain "java/lang/Comparable" (some 0) with
  accessFlags := 1537
  interfaces := #[]
  cf := some (fileOf pool6 1 #[] #[] 1537 3 #[] #[])
  fields := #[]
  methods := #[]
  instanceTypes := #[]
  staticTypes := #[]
  resolved := Array.replicate 12 none
  statics := none }

def pool7 : Array CpInfo := pool [(1, .class_ 2), (0, u "java/lang/constant/Constable"), (0, .class_ 4), (0, u "java/lang/Object")] 6

/-- java/lang/constant/Constable -/
def k7 : Class := { plain "java/lang/constant/Constable" (some 0) with
  accessFlags := 1537
  interfaces := #[]
  cf := some (fileOf pool7 1 #[] #[] 1537 3 #[] #[])
  fields := #[]
  methods := #[]
  instanceTypes := #[]
  staticTypes := #[]
  resolved := Array.replicate 11 none
  statics := none }

def pool8 : Array CpInfo := pool [(1, .class_ 2), (0, u "java/lang/constant/ConstantDesc"), (0, .class_ 4), (0, u "java/lang/Object")] 32

/-- java/lang/constant/ConstantDesc -/
def k8 : Class := { plain "java/lang/constant/ConstantDesc" (some 0) with
  accessFlags := 1537
  interfaces := #[]
  cf := some (fileOf pool8 1 #[] #[] 1537 3 #[] #[])
  fields := #[]
  methods := #[]
  instanceTypes := #[]
  staticTypes := #[]
  resolved := Array.replicate 37 none
  statics := none }

def pool9 : Array CpInfo := pool [(1, .class_ 2), (0, u "java/lang/Long"), (15, .class_ 20), (1, u "java/lang/Integer"), (79, u "numberOfLeadingZeros"), (0, u "(J)I"), (133, .class_ 237), (1, u "java/lang/Long$LongCache"), (33, .class_ 272), (0, u "java/lang/Number"), (2, u "value"), (0, u "J"), (31, .methodref 18 309), (0, .nameAndType 100 310), (0, u "(I)I"), (50, u "TYPE"), (0, u "Ljava/lang/Class;"), (0, .class_ 364), (0, u "java/lang/Comparable"), (0, .class_ 366), (0, u "java/lang/constant/Constable"), (0, .class_ 368), (0, u "java/lang/constant/ConstantDesc"), (0, u "MIN_VALUE"), (1, u "MAX_VALUE"), (4, u "SIZE"), (0, u "I"), (1, u "BYTES"), (1, u "serialVersionUID")] 142

def k9c0 : Code := { maxStack := 3, maxLocals := 3, code := jdk_35_method_48_code, exceptionTable := #[], attributes := #[] }
def k9m0 : Method := { name := "numberOfLeadingZeros", desc := "(J)I", sig := { parameters := [.long], returnType := some .int }, accessFlags := 9, code := some k9c0 }
/-- java/lang/Long -/
def k9 : Class := { plain "java/lang/Long" (some 5) with
  accessFlags := 49
  interfaces := #[6, 7, 8]
  cf := some (fileOf pool9 1 #[.nestMembers #[235]] #[{ accessFlags := 9, nameIndex := 100, descriptorIndex := 101, attributes := #[] }] 49 271 #[363, 365, 367] #[{ accessFlags := 25, nameIndex := 369, descriptorIndex := 276, attributes := #[] }, { accessFlags := 25, nameIndex := 371, descriptorIndex := 276, attributes := #[] }, { accessFlags := 25, nameIndex := 361, descriptorIndex := 362, attributes := #[] }, { accessFlags := 18, nameIndex := 275, descriptorIndex := 276, attributes := #[] }, { accessFlags := 25, nameIndex := 376, descriptorIndex := 377, attributes := #[] }, { accessFlags := 25, nameIndex := 379, descriptorIndex := 377, attributes := #[] }, { accessFlags := 26, nameIndex := 381, descriptorIndex := 276, attributes := #[] }])
  fields := #[{ name := "MIN_VALUE", type := .long, accessFlags := 25, slot := 0, constantValue := 0 }, { name := "MAX_VALUE", type := .long, accessFlags := 25, slot := 1, constantValue := 0 }, { name := "TYPE", type := (.object "java/lang/Class"), accessFlags := 25, slot := 2, constantValue := 0 }, { name := "value", type := .long, accessFlags := 18, slot := 0, constantValue := 0 }, { name := "SIZE", type := .int, accessFlags := 25, slot := 3, constantValue := 0 }, { name := "BYTES", type := .int, accessFlags := 25, slot := 4, constantValue := 0 }, { name := "serialVersionUID", type := .long, accessFlags := 26, slot := 5, constantValue := 0 }]
  methods := #[k9m0]
  instanceTypes := #[.long]
  staticTypes := #[.long, .long, (.object "java/lang/Class"), .int, .int, .long]
  resolved := Array.replicate 524 none
  statics := none }

def pool10 : Array CpInfo := pool [(1, .class_ 2), (0, u "java/lang/Integer"), (16, u "digits"), (0, u "[C"), (32, u "numberOfLeadingZeros"), (0, u "(I)I"), (30, u "DigitOnes"), (0, u "[B"), (2, u "DigitTens"), (99, .class_ 190), (0, u "java/lang/Integer$IntegerCache"), (3, u "I"), (8, .class_ 204), (0, u "java/lang/Number"), (2, u "value"), (56, .integer 65536), (37, u "TYPE"), (0, u "Ljava/lang/Class;"), (0, .class_ 305), (0, u "java/lang/Comparable"), (0, .class_ 307), (0, u "java/lang/constant/Constable"), (0, .class_ 309), (0, u "java/lang/constant/ConstantDesc"), (0, u "MIN_VALUE"), (1, u "MAX_VALUE"), (3, u "SIZE"), (1, u "BYTES"), (1, u "serialVersionUID"), (0, u "J")] 131

def k10c0 : Code := { maxStack := 3, maxLocals := 2, code := jdk_33_method_47_code, exceptionTable := #[], attributes := #[] }
def k10m0 : Method := { name := "numberOfLeadingZeros", desc := "(I)I", sig := { parameters := [.int], returnType := some .int }, accessFlags := 9, code := some k10c0 }
/-- java/lang/Integer -/
def k10 : Class := { plain "java/lang/Integer" (some 5) with
  accessFlags := 49
  interfaces := #[6, 7, 8]
  cf := some (fileOf pool10 1 #[.nestMembers #[189]] #[{ accessFlags := 9, nameIndex := 53, descriptorIndex := 54, attributes := #[] }] 49 203 #[304, 306, 308] #[{ accessFlags := 25, nameIndex := 310, descriptorIndex := 194, attributes := #[] }, { accessFlags := 25, nameIndex := 312, descriptorIndex := 194, attributes := #[] }, { accessFlags := 25, nameIndex := 302, descriptorIndex := 303, attributes := #[] }, { accessFlags := 24, nameIndex := 19, descriptorIndex := 20, attributes := #[] }, { accessFlags := 24, nameIndex := 89, descriptorIndex := 86, attributes := #[] }, { accessFlags := 24, nameIndex := 85, descriptorIndex := 86, attributes := #[] }, { accessFlags := 18, nameIndex := 207, descriptorIndex := 194, attributes := #[] }, { accessFlags := 25, nameIndex := 316, descriptorIndex := 194, attributes := #[] }, { accessFlags := 25, nameIndex := 318, descriptorIndex := 194, attributes := #[] }, { accessFlags := 26, nameIndex := 320, descriptorIndex := 321, attributes := #[] }])
  fields := #[{ name := "MIN_VALUE", type := .int, accessFlags := 25, slot := 0, constantValue := 0 }, { name := "MAX_VALUE", type := .int, accessFlags := 25, slot := 1, constantValue := 0 }, { name := "TYPE", type := (.object "java/lang/Class"), accessFlags := 25, slot := 2, constantValue := 0 }, { name := "digits", type := (.array .char), accessFlags := 24, slot := 3, constantValue := 0 }, { name := "DigitTens", type := (.array .byte), accessFlags := 24, slot := 4, constantValue := 0 }, { name := "DigitOnes", type := (.array .byte), accessFlags := 24, slot := 5, constantValue := 0 }, { name := "value", type := .int, accessFlags := 18, slot := 0, constantValue := 0 }, { name := "SIZE", type := .int, accessFlags := 25, slot := 6, constantValue := 0 }, { name := "BYTES", type := .int, accessFlags := 25, slot := 7, constantValue := 0 }, { name := "serialVersionUID", type := .long, accessFlags := 26, slot := 8, constantValue := 0 }]
  methods := #[k10m0]
  instanceTypes := #[.int]
  staticTypes := #[.int, .int, (.object "java/lang/Class"), (.array .char), (.array .byte), (.array .byte), .int, .int, .long]
  resolved := Array.replicate 453 none
  statics := none }

def pool11 : Array CpInfo := pool [(1, u "java/lang/Cloneable"), (0, .class_ 1), (0, u "java/lang/Object"), (0, .class_ 3)] 3

/-- java/lang/Cloneable -/
def k11 : Class := { plain "java/lang/Cloneable" (some 0) with
  accessFlags := 1537
  interfaces := #[]
  cf := some (fileOf pool11 2 #[] #[] 1537 4 #[] #[])
  fields := #[]
  methods := #[]
  instanceTypes := #[]
  staticTypes := #[]
  resolved := Array.replicate 8 none
  statics := none }

/-- the primitive byte -/
def k12 : Class := { plain "byte" none with kind := .primitive 'B', accessFlags := 0x411 }
/-- [B -/
def k13 : Class := { plain "[B" (some 0) with kind := .array 12 .byte, interfaces := #[11, 4], accessFlags := 1041 }

/-- the primitive int -/
def k14 : Class := { plain "int" none with kind := .primitive 'I', accessFlags := 0x411 }
/-- [I -/
def k15 : Class := { plain "[I" (some 0) with kind := .array 14 .int, interfaces := #[11, 4], accessFlags := 1041 }

/-- the primitive long -/
def k16 : Class := { plain "long" none with kind := .primitive 'J', accessFlags := 0x411 }
/-- [J -/
def k17 : Class := { plain "[J" (some 0) with kind := .array 16 .long, interfaces := #[11, 4], accessFlags := 1041 }

def heap : Heap := #[]
def classes : Array Class := #[k0, k1, k2, k3, k4, k5, k6, k7, k8, k9, k10, k11, k12, k13, k14, k15, k16, k17]
def interned : List (Array UInt16 × Addr) := []
def slotsUsed : Nat := 0
def theMethod : MethodId := ⟨1, 1⟩
def args0 : Array Value := #[.int 1, .int 2, .int 3, .int 4, .int 5]
def aboutOver (below : List Frame) : State where
  vm := { classes := classes, interned := interned.toArray }
  heap := heap
  slotsUsed := slotsUsed
  threads := #[{ frames := .invoking theMethod args0 :: below }]
def below0 : List Frame := [.native { method := ⟨0, 0⟩, args := #[] }]
def about1 : State := aboutOver below0
def p0 : Program := .bare "" "" ""
def e0 : Env := launch0.env 0 0 0
theorem w_frames : about1.frames = Frame.invoking theMethod args0 :: below0 := rfl
set_option maxRecDepth 65536 in
theorem w_args : argsFit about1.vm theMethod args0 = true := by decide +kernel
set_option maxRecDepth 65536 in
theorem w_heap : heapFits about1 = true := by decide +kernel
set_option maxRecDepth 65536 in
theorem w_runnable : about1.curStatus? = some .runnable := by decide +kernel
set_option maxRecDepth 65536 in
theorem w_alone : about1.alone = true := by decide +kernel
set_option maxRecDepth 65536 in
theorem w_named : about1.methodNamed? x = some theMethod := by decide +kernel
set_option maxRecDepth 65536 in
theorem w_hears : about1.hears theMethod below0 = true := by decide +kernel
set_option maxRecDepth 65536 in
theorem w_ripe : about1.ripe theMethod args0 below0 = true := by decide +kernel
theorem w_running : about1.status = .running := rfl
set_option maxRecDepth 65536 in
theorem w_room : about1.hasRoom e0.platform room_1 = true :=
  launch0.hasRoom_least _ room_1 (by decide +kernel) (by decide +kernel) (by decide +kernel) (by decide +kernel) (by decide +kernel) (by decide +kernel)
theorem allAtoms_all (ts : List Jvm.Cond) (a : Array Jvm.Value) (st : Jvm.State) : (allAtoms ts).before a st = ts.all (fun c => c.before a st) := by
  induction ts with
  | nil => rfl
  | cons c t ih =>
    show (Jvm.Cond.and c (allAtoms t)).before a st = _
    rw [Jvm.Cond.before_and, ih, List.all_cons]
def words1 : List Jvm.Cond := Jvm.Cond.code x code maxLocals ret :: tables_1
/-- a 'code' word, met by the world's own term for the bytes: nothing is compared byte by byte -/
theorem code_word {y : MethodName} {bytes : ByteArray} {mx : Nat} {rt : Option FieldType} {a : Array Value} {s : State} {m : MethodId} {meth : Method} {c : Code} (h1 : s.methodNamed? y = some m) (h2 : s.vm.method? m = some meth) (h3 : meth.code = some c) (h4 : c.code = bytes)
    (h5 : (c.maxLocals == mx && c.exceptionTable.isEmpty && decide (c.maxStack ≤ mostOperands) && decide (meth.sig.returnType = rt) && !meth.locks && decide (parseMethodDescriptor y.desc = some meth.sig)) = true) : (Jvm.Cond.code y bytes mx rt).before a s = true := by
  simp only [Bool.and_eq_true, beq_iff_eq, Bool.not_eq_true', decide_eq_true_eq] at h5
  obtain ⟨⟨⟨⟨⟨g1, g2⟩, g3⟩, g4⟩, g5⟩, g6⟩ := h5
  simp [Cond.before, Cond.holds, Cond.value, h1, h2, h3, h4, g1, g2, g3, g4, g5, g6]
def isCode : Jvm.Cond → Bool
  | .code _ _ _ _ => true
  | _ => false
theorem all_split {L : List Jvm.Cond} {P : Jvm.Cond → Bool} (h1 : L.all (fun c => isCode c || P c) = true) (h2 : ∀ c ∈ L.filter isCode, P c = true) : L.all P = true := by
  refine List.all_eq_true.mpr fun c hc => ?_
  have h := List.all_eq_true.mp h1 c hc
  rcases Bool.eq_false_or_eq_true (isCode c) with hi | hi
  · exact h2 c (List.mem_filter.mpr ⟨hc, hi⟩)
  · simpa [hi] using h
set_option maxRecDepth 65536 in
theorem w_c0 : (Jvm.Cond.code x code maxLocals ret).before args0 about1 = true := code_word (m := ⟨1, 1⟩) (meth := k1m1) (c := k1c1) (by decide +kernel) rfl rfl rfl (by decide +kernel)
set_option maxRecDepth 65536 in
theorem w_c1 : (Jvm.Cond.code ({ cls := "com/example/histories_to_cohorts/historiestocohorts/service/SetTrie", name := "<init>", desc := "()V" } : Jvm.MethodName) prog_40_method_1_code (1 : Nat) (Option.none : Option Jvm.ClassFile.FieldType)).before args0 about1 = true := code_word (m := ⟨2, 0⟩) (meth := k2m0) (c := k2c0) (by decide +kernel) rfl rfl rfl (by decide +kernel)
set_option maxRecDepth 65536 in
theorem w_c2 : (Jvm.Cond.code ({ cls := "java/lang/Object", name := "<init>", desc := "()V" } : Jvm.MethodName) object_method_1_code (1 : Nat) (Option.none : Option Jvm.ClassFile.FieldType)).before args0 about1 = true := code_word (m := ⟨0, 0⟩) (meth := k0m0) (c := k0c0) (by decide +kernel) rfl rfl rfl (by decide +kernel)
set_option maxRecDepth 65536 in
theorem w_c3 : (Jvm.Cond.code ({ cls := "com/example/histories_to_cohorts/historiestocohorts/service/SetTrie", name := "allocate", desc := "(I)V" } : Jvm.MethodName) prog_40_method_8_code (2 : Nat) (Option.none : Option Jvm.ClassFile.FieldType)).before args0 about1 = true := code_word (m := ⟨2, 5⟩) (meth := k2m5) (c := k2c5) (by decide +kernel) rfl rfl rfl (by decide +kernel)
set_option maxRecDepth 65536 in
theorem w_c4 : (Jvm.Cond.code ({ cls := "java/util/Arrays", name := "fill", desc := "([JJ)V" } : Jvm.MethodName) jdk_65_method_101_code (5 : Nat) (Option.none : Option Jvm.ClassFile.FieldType)).before args0 about1 = true := code_word (m := ⟨3, 1⟩) (meth := k3m1) (c := k3c1) (by decide +kernel) rfl rfl rfl (by decide +kernel)
set_option maxRecDepth 65536 in
theorem w_c5 : (Jvm.Cond.code ({ cls := "java/lang/Long", name := "numberOfLeadingZeros", desc := "(J)I" } : Jvm.MethodName) jdk_35_method_48_code (3 : Nat) (Option.some Jvm.ClassFile.FieldType.int)).before args0 about1 = true := code_word (m := ⟨9, 0⟩) (meth := k9m0) (c := k9c0) (by decide +kernel) rfl rfl rfl (by decide +kernel)
set_option maxRecDepth 65536 in
theorem w_c6 : (Jvm.Cond.code ({ cls := "java/lang/Integer", name := "numberOfLeadingZeros", desc := "(I)I" } : Jvm.MethodName) jdk_33_method_47_code (2 : Nat) (Option.some Jvm.ClassFile.FieldType.int)).before args0 about1 = true := code_word (m := ⟨10, 0⟩) (meth := k10m0) (c := k10c0) (by decide +kernel) rfl rfl rfl (by decide +kernel)
set_option maxRecDepth 65536 in
theorem w_c7 : (Jvm.Cond.code ({ cls := "com/example/histories_to_cohorts/historiestocohorts/service/SetTrie", name := "child", desc := "(II)I" } : Jvm.MethodName) prog_40_method_2_code (4 : Nat) (Option.some Jvm.ClassFile.FieldType.int)).before args0 about1 = true := code_word (m := ⟨2, 1⟩) (meth := k2m1) (c := k2c1) (by decide +kernel) rfl rfl rfl (by decide +kernel)
set_option maxRecDepth 65536 in
theorem w_c8 : (Jvm.Cond.code ({ cls := "com/example/histories_to_cohorts/historiestocohorts/service/SetTrie", name := "key", desc := "(II)J" } : Jvm.MethodName) prog_40_method_6_code (2 : Nat) (Option.some Jvm.ClassFile.FieldType.long)).before args0 about1 = true := code_word (m := ⟨2, 3⟩) (meth := k2m3) (c := k2c3) (by decide +kernel) rfl rfl rfl (by decide +kernel)
set_option maxRecDepth 65536 in
theorem w_c9 : (Jvm.Cond.code ({ cls := "com/example/histories_to_cohorts/historiestocohorts/service/SetTrie", name := "probe", desc := "(J)I" } : Jvm.MethodName) prog_40_method_7_code (4 : Nat) (Option.some Jvm.ClassFile.FieldType.int)).before args0 about1 = true := code_word (m := ⟨2, 4⟩) (meth := k2m4) (c := k2c4) (by decide +kernel) rfl rfl rfl (by decide +kernel)
set_option maxRecDepth 65536 in
theorem w_c10 : (Jvm.Cond.code ({ cls := "com/example/histories_to_cohorts/historiestocohorts/service/SetTrie", name := "addChild", desc := "(II)I" } : Jvm.MethodName) prog_40_method_3_code (7 : Nat) (Option.some Jvm.ClassFile.FieldType.int)).before args0 about1 = true := code_word (m := ⟨2, 2⟩) (meth := k2m2) (c := k2c2) (by decide +kernel) rfl rfl rfl (by decide +kernel)
def codes1 : List Jvm.Cond := [Jvm.Cond.code x code maxLocals ret, Jvm.Cond.code ({ cls := "com/example/histories_to_cohorts/historiestocohorts/service/SetTrie", name := "<init>", desc := "()V" } : Jvm.MethodName) prog_40_method_1_code (1 : Nat) (Option.none : Option Jvm.ClassFile.FieldType), Jvm.Cond.code ({ cls := "java/lang/Object", name := "<init>", desc := "()V" } : Jvm.MethodName) object_method_1_code (1 : Nat) (Option.none : Option Jvm.ClassFile.FieldType), Jvm.Cond.code ({ cls := "com/example/histories_to_cohorts/historiestocohorts/service/SetTrie", name := "allocate", desc := "(I)V" } : Jvm.MethodName) prog_40_method_8_code (2 : Nat) (Option.none : Option Jvm.ClassFile.FieldType), Jvm.Cond.code ({ cls := "java/util/Arrays", name := "fill", desc := "([JJ)V" } : Jvm.MethodName) jdk_65_method_101_code (5 : Nat) (Option.none : Option Jvm.ClassFile.FieldType), Jvm.Cond.code ({ cls := "java/lang/Long", name := "numberOfLeadingZeros", desc := "(J)I" } : Jvm.MethodName) jdk_35_method_48_code (3 : Nat) (Option.some Jvm.ClassFile.FieldType.int), Jvm.Cond.code ({ cls := "java/lang/Integer", name := "numberOfLeadingZeros", desc := "(I)I" } : Jvm.MethodName) jdk_33_method_47_code (2 : Nat) (Option.some Jvm.ClassFile.FieldType.int), Jvm.Cond.code ({ cls := "com/example/histories_to_cohorts/historiestocohorts/service/SetTrie", name := "child", desc := "(II)I" } : Jvm.MethodName) prog_40_method_2_code (4 : Nat) (Option.some Jvm.ClassFile.FieldType.int), Jvm.Cond.code ({ cls := "com/example/histories_to_cohorts/historiestocohorts/service/SetTrie", name := "key", desc := "(II)J" } : Jvm.MethodName) prog_40_method_6_code (2 : Nat) (Option.some Jvm.ClassFile.FieldType.long), Jvm.Cond.code ({ cls := "com/example/histories_to_cohorts/historiestocohorts/service/SetTrie", name := "probe", desc := "(J)I" } : Jvm.MethodName) prog_40_method_7_code (4 : Nat) (Option.some Jvm.ClassFile.FieldType.int), Jvm.Cond.code ({ cls := "com/example/histories_to_cohorts/historiestocohorts/service/SetTrie", name := "addChild", desc := "(II)I" } : Jvm.MethodName) prog_40_method_3_code (7 : Nat) (Option.some Jvm.ClassFile.FieldType.int)]
set_option maxRecDepth 65536 in
theorem codes_eq : words1.filter isCode = codes1 := rfl
theorem w_codes : ∀ c ∈ words1.filter isCode, c.before args0 about1 = true := by
  rw [codes_eq]
  intro c hc
  simp only [codes1, List.mem_cons, List.not_mem_nil, or_false] at hc
  rcases hc with rfl | rfl | rfl | rfl | rfl | rfl | rfl | rfl | rfl | rfl | rfl
  · exact w_c0
  · exact w_c1
  · exact w_c2
  · exact w_c3
  · exact w_c4
  · exact w_c5
  · exact w_c6
  · exact w_c7
  · exact w_c8
  · exact w_c9
  · exact w_c10
set_option maxRecDepth 65536 in
theorem w_t1 : (words1.take 24).all (fun c => isCode c || c.before args0 about1) = true := by decide +kernel
set_option maxRecDepth 65536 in
theorem w_t2 : ((words1.drop 24).take 24).all (fun c => isCode c || c.before args0 about1) = true := by decide +kernel
set_option maxRecDepth 65536 in
theorem w_t3 : ((words1.drop 24).drop 24).all (fun c => isCode c || c.before args0 about1) = true := by decide +kernel
theorem w_tables : (allAtoms (Jvm.Cond.code x code maxLocals ret :: tables_1)).before args0 about1 = true := by
  rw [allAtoms_all]
  show words1.all (fun c => c.before args0 about1) = true
  refine all_split ?_ w_codes
  rw [← List.take_append_drop 24 words1, List.all_append, w_t1, ← List.take_append_drop 24 (words1.drop 24), List.all_append, w_t2, w_t3]
  rfl
set_option maxRecDepth 65536 in
theorem w_case : (Jvm.Cond.and given_1 narrow_1).before args0 about1 = true := by decide +kernel
theorem w_applies : (headSpec (Jvm.Cond.code x code maxLocals ret :: tables_1) room_1).applies x e0.platform about1 = true :=
  (Spec.applies_iff w_frames).mpr ⟨w_running, w_runnable, w_alone, w_named, w_hears, w_ripe, w_room, w_tables⟩
theorem atStart : AtStart classFile x code maxLocals ret World_1 tables_1 room_1 Calls_1 rest_1 Pre_1 launch0 p0 e0 about1 theMethod args0 below0 :=
  ⟨lists_1, trivial, launch0.admits_env _ _ _, launch0.least_env, fairChoices_fair.cas, fairChoices_fair.clock, w_frames, w_args, w_heap, w_applies, trivial, trivial, w_case⟩
end start1
theorem witness_1 : WitnessClaimed_1 := ⟨start1.p0, start1.e0, start1.about1, start1.theMethod, start1.args0, start1.below0, start1.atStart⟩
end Jvm.Pilot.@@N@@
