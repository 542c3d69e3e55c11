import JvmDerived
import JvmDerived.Pilot.@@N@@Statement
import JvmDerived.Pilot.@@N@@Code
set_option linter.unusedVariables false
set_option linter.unusedSimpArgs false
namespace Jvm.RoadKit
open Sem ClassFile Op Lib Jvm.Stand Jvm.Free Jvm.LawKit
section New
variable {p : Program} {l : Launch} {e : Env} {R : Room} {s : State} {m : MethodId} {args : Array Value} {below : List Frame} {meth : Method} {c : Code} {T : State} {locs : List Loc} {cells slots : Nat}
theorem retI (X : Stand p l e R s m args below meth c T locs cells slots) (hx : p.tables.exec = Jvm.exec) {pc : Nat} {Ls : Array Slot} {z : Int32} {rest : List Value} (hret : meth.sig.returnType = some .int) (hd : decode c.code pc = .ok (.ireturn, 1)) {fs : List Frame}
    (hl : ∀ (f : JFrame) (acts : List Action), f.method = m → f.locked = none → f.entered = [] → (doReturn e (T.setTop f) acts (some (.int z))).1 = T.setFrames fs) : Steps p.tables e below (T.setTop (mkF m pc Ls (.int z :: rest))) (T.setFrames fs) := by
  have hm' : T.vm.method? m = some meth := X.method'
  have hn : narrow .int (.int z) = .int z := rfl
  show Steps p.tables e below (T.setTop { method := m, pc := pc, locals := Ls, stack := _ :: rest, locked := none }) _
  jvm_step X.here [X.here.top, hx, hd, hm', hret, hn]
  first | (intro acts; rw [hl _ acts rfl rfl rfl]) | rw [hl _ _ rfl rfl rfl]
  exact Steps.refl _
end New
end Jvm.RoadKit
namespace Jvm.Pilot.@@N@@
open Jvm Jvm.ClassFile Sem Op Lib Jvm.Free Jvm.Stand Jvm.LawKit Jvm.RoadKit Bundle Jvm.Pilot.@@N@@.Jvm.D
theorem own_irem (x y : Int32) (d : Int) (hy : y.toInt = d) (hd1 : y ≠ -1) (hd : 0 < d) (h0 : 0 ≤ x.toInt) : (x - (x / y) * y).toInt = x.toInt % d := by
  have h1 := (c_idiv x y d hy hd1).1 h0
  have h2 := c_imul (x / y) y
  have h3 := c_isub x ((x / y) * y)
  have r := rng32 (x - (x / y) * y)
  have ry := rng32 y
  have e := Int.emod_add_mul_ediv x.toInt d
  have m0 := Int.emod_nonneg x.toInt (by omega : d ≠ 0)
  have m1 := Int.emod_lt_of_pos x.toInt hd
  rw [h1, hy, Int.mul_comm] at h2
  omega
section OwnArr
variable {p : Program} {l : Launch} {e : Env} {R : Room} {s : State} {m : MethodId} {args : Array Value} {below : List Frame} {meth : Method} {c : Code} {T : State} {locs : List Loc} {cells slots : Nat} {Z : State} {h : Heap}
theorem own_map_set {α β : Type} (f : α → β) (L : List α) (i : Nat) (x : α) : (L.map f).set i (f x) = (L.set i x).map f := List.map_set.symm
theorem own_getI (L : List Int32) (i : Nat) : (L.map Value.int).getD i (.int 0) = .int (L.getD i 0) := by
  simp only [List.getD_eq_getElem?_getD, List.getElem?_map]; cases L[i]? <;> rfl
theorem own_getJ (L : List Int64) (i : Nat) : (L.map Value.long).getD i (.long 0) = .long (L.getD i 0) := by
  simp only [List.getD_eq_getElem?_getD, List.getElem?_map]; cases L[i]? <;> rfl
theorem own_stI (X : Stand p l e R s m args below meth c T locs cells slots) (hx : p.tables.exec = Jvm.exec) (hZ : Z.Warmed39 s.vm) (eT : T.heap = h) {a : Addr} {k : ClassId} {z : Int32} {L : List Int32} (F : Arv Z h a k .int z (L.map Value.int) (.int 0)) {j x : Int32} (hj : ¬ j < 0 ∧ j < z) (hl : j.toNatClampNeg < L.length) {g : JFrame} (hg : g.method = m) {rest : List Value} (hs : g.stack = .int x :: .int j :: .ref a :: rest) (hd : decode c.code g.pc = .ok (.iastore, 1)) :
    ∃ T' h', Stand p l e R s m args below meth c T' (locs ++ [⟨a, j.toNatClampNeg⟩]) cells slots ∧ T'.heap = h' ∧ Wr h h' a j.toNatClampNeg (.int x) ∧ Arv Z h' a k .int z ((L.set j.toNatClampNeg x).map Value.int) (.int 0) ∧ ∀ target, Steps p.tables e below (T'.setTop { g with pc := g.pc + 1, stack := rest }) target → Steps p.tables e below (T.setTop g) target := by
  obtain ⟨cl, Ar, q, Sz, Nn, Hh, Gg⟩ := F
  obtain ⟨T', h', X', e', W, st⟩ := stI X hx hZ eT Ar (j := j) (inb_of Sz hj) hg hs hd
  refine ⟨T', h', X', e', W, ?_, st⟩
  have := Arv.set Ar q Sz Nn Hh Gg (v := .int x) rfl W _ rfl (by simpa using hl)
  rw [own_map_set] at this; exact this
theorem own_stJ (X : Stand p l e R s m args below meth c T locs cells slots) (hx : p.tables.exec = Jvm.exec) (hZ : Z.Warmed39 s.vm) (eT : T.heap = h) {a : Addr} {k : ClassId} {z : Int32} {L : List Int64} (F : Arv Z h a k .long z (L.map Value.long) (.long 0)) {j : Int32} {x : Int64} (hj : ¬ j < 0 ∧ j < z) (hl : j.toNatClampNeg < L.length) {g : JFrame} (hg : g.method = m) {rest : List Value} (hs : g.stack = .long x :: .int j :: .ref a :: rest) (hd : decode c.code g.pc = .ok (.lastore, 1)) :
    ∃ T' h', Stand p l e R s m args below meth c T' (locs ++ [⟨a, j.toNatClampNeg⟩]) cells slots ∧ T'.heap = h' ∧ Wr h h' a j.toNatClampNeg (.long x) ∧ Arv Z h' a k .long z ((L.set j.toNatClampNeg x).map Value.long) (.long 0) ∧ ∀ target, Steps p.tables e below (T'.setTop { g with pc := g.pc + 1, stack := rest }) target → Steps p.tables e below (T.setTop g) target := by
  obtain ⟨cl, Ar, q, Sz, Nn, Hh, Gg⟩ := F
  obtain ⟨T', h', X', e', W, st⟩ := stJ X hx hZ eT Ar (j := j) (inb_of Sz hj) hg hs hd
  refine ⟨T', h', X', e', W, ?_, st⟩
  have := Arv.set Ar q Sz Nn Hh Gg (v := .long x) rfl W _ rfl (by simpa using hl)
  rw [own_map_set] at this; exact this
theorem own_ldI (X : Stand p l e R s m args below meth c T locs cells slots) (hx : p.tables.exec = Jvm.exec) (hZ : Z.Warmed39 s.vm) (eT : T.heap = h) {a : Addr} {k : ClassId} {z : Int32} {L : List Int32} (F : Arv Z h a k .int z (L.map Value.int) (.int 0)) {j : Int32} (hj : ¬ j < 0 ∧ j < z) {g : JFrame} (hg : g.method = m) {rest : List Value} (hs : g.stack = .int j :: .ref a :: rest) (hd : decode c.code g.pc = .ok (.iaload, 1)) (target : State)
    (hrest : Steps p.tables e below (T.setTop { g with pc := g.pc + 1, stack := .int (L.getD j.toNatClampNeg 0) :: rest }) target) : Steps p.tables e below (T.setTop g) target := by
  obtain ⟨cl, Ar, q, Sz, Nn, Hh, Gg⟩ := F
  exact X.iaload hx (j := j) (v := .int (L.getD j.toNatClampNeg 0)) (by rw [eT]; exact Ar.1) (State.isArrayOf_alike hZ.alike Ar.2.1) Ar.2.2 (inb_of Sz hj) (Has.at Hh (inb_of Sz hj) (own_getI L _)) hg hs hd _ hrest
theorem own_ldJ (X : Stand p l e R s m args below meth c T locs cells slots) (hx : p.tables.exec = Jvm.exec) (hZ : Z.Warmed39 s.vm) (eT : T.heap = h) {a : Addr} {k : ClassId} {z : Int32} {L : List Int64} (F : Arv Z h a k .long z (L.map Value.long) (.long 0)) {j : Int32} (hj : ¬ j < 0 ∧ j < z) {g : JFrame} (hg : g.method = m) {rest : List Value} (hs : g.stack = .int j :: .ref a :: rest) (hd : decode c.code g.pc = .ok (.laload, 1)) (target : State)
    (hrest : Steps p.tables e below (T.setTop { g with pc := g.pc + 1, stack := .long (L.getD j.toNatClampNeg 0) :: rest }) target) : Steps p.tables e below (T.setTop g) target := by
  obtain ⟨cl, Ar, q, Sz, Nn, Hh, Gg⟩ := F
  exact X.laload hx (j := j) (v := .long (L.getD j.toNatClampNeg 0)) (by rw [eT]; exact Ar.1) (State.isArrayOf_alike hZ.alike Ar.2.1) Ar.2.2 (inb_of Sz hj) (Has.at Hh (inb_of Sz hj) (own_getJ L _)) hg hs hd _ hrest
theorem own_len (X : Stand p l e R s m args below meth c T locs cells slots) (hx : p.tables.exec = Jvm.exec) (hZ : Z.Warmed39 s.vm) (eT : T.heap = h) {a : Addr} {k : ClassId} {ty : FieldType} {z : Int32} {vs : List Value} {d : Value} (F : Arv Z h a k ty z vs d) {g : JFrame} (hg : g.method = m) {rest : List Value} (hs : g.stack = .ref a :: rest) (hd : decode c.code g.pc = .ok (.arraylength, 1)) (target : State)
    (hrest : Steps p.tables e below (T.setTop { g with pc := g.pc + 1, stack := .int z :: rest }) target) : Steps p.tables e below (T.setTop g) target := by
  obtain ⟨cl, Ar, q, Sz, Nn, Hh, Gg⟩ := F
  refine X.arraylength hx (by rw [eT]; exact Ar.1) (State.isArrayOf_alike hZ.alike Ar.2.1) hg hs hd _ ?_
  rw [len_of Sz Nn]; exact hrest
theorem own_neA {a b : Addr} {C : String} {k : ClassId} {ty : FieldType} {z : Int32} {vs : List Value} {d : Value} {a0 : Array Value} {n : Nat} (F : Exa Z h a C) (wi : (Jvm.Cond.instantiable C n).before a0 Z = true) (G : Arv Z h b k ty z vs d) : a ≠ b := by
  obtain ⟨cl, Ar, -⟩ := G; exact ne_arr F wi Ar
end OwnArr
abbrev own_SS (Z : State) (h : Heap) (a : Addr) (rd rc fm : Int32) (RE RM : List Int32) (ae am : Addr) (ke km : ClassId) : Prop := Exa Z h a "com/example/ariadne/ariadne/algo/SplitSearch" ∧ Fld Z h a "com/example/ariadne/ariadne/algo/SplitSearch" "reaching" "[I" (.ref ae) ∧ Fld Z h a "com/example/ariadne/ariadne/algo/SplitSearch" "roundMark" "[I" (.ref am) ∧ Fld Z h a "com/example/ariadne/ariadne/algo/SplitSearch" "round" "I" (.int rd) ∧ Fld Z h a "com/example/ariadne/ariadne/algo/SplitSearch" "reachCount" "I" (.int rc) ∧ Fld Z h a "com/example/ariadne/ariadne/algo/SplitSearch" "firstMarked" "I" (.int fm) ∧ Fld Z h a "com/example/ariadne/ariadne/algo/SplitSearch" "restCount" "I" (.int 0) ∧ Arv Z h ae ke .int 3 (RE.map Value.int) (.int 0) ∧ Arv Z h am km .int 3 (RM.map Value.int) (.int 0)
theorem d3_0 : decode prog_51_method_2_code 0 = .ok (.aload_n 0, 1) := by decide +kernel
theorem d3_1 : decode prog_51_method_2_code 1 = .ok (.dup, 1) := by decide +kernel
theorem d3_2 : decode prog_51_method_2_code 2 = .ok (.getfield 50, 3) := by decide +kernel
theorem d3_5 : decode prog_51_method_2_code 5 = .ok (.iconst 1, 1) := by decide +kernel
theorem d3_6 : decode prog_51_method_2_code 6 = .ok (.iadd, 1) := by decide +kernel
theorem d3_7 : decode prog_51_method_2_code 7 = .ok (.putfield 50, 3) := by decide +kernel
theorem d3_10 : decode prog_51_method_2_code 10 = .ok (.aload_n 0, 1) := by decide +kernel
theorem d3_11 : decode prog_51_method_2_code 11 = .ok (.iconst 0, 1) := by decide +kernel
theorem d3_12 : decode prog_51_method_2_code 12 = .ok (.putfield 54, 3) := by decide +kernel
theorem d3_15 : decode prog_51_method_2_code 15 = .ok (.aload_n 0, 1) := by decide +kernel
theorem d3_16 : decode prog_51_method_2_code 16 = .ok (.iconst 0, 1) := by decide +kernel
theorem d3_17 : decode prog_51_method_2_code 17 = .ok (.putfield 57, 3) := by decide +kernel
theorem d3_20 : decode prog_51_method_2_code 20 = .ok (.aload_n 0, 1) := by decide +kernel
theorem d3_21 : decode prog_51_method_2_code 21 = .ok (.iconst 0, 1) := by decide +kernel
theorem d3_22 : decode prog_51_method_2_code 22 = .ok (.putfield 60, 3) := by decide +kernel
theorem d3_25 : decode prog_51_method_2_code 25 = .ok (.return_, 1) := by decide +kernel
theorem pn_3 : plainName "com/example/ariadne/ariadne/algo/SplitSearch" = true := by first | (simp [plainName, overriddenIn]; done) | decide +kernel
theorem ef_newRound (m : MethodId) (x0 : Addr) : entryFrame m #[(.ref x0)] 1 = mkF m 0 #[.val (.ref x0)] [] := by first | (simp [entryFrame, mkF, argsToLocals, Value.category]; done) | rfl
def QnewRound (Z : State) (a1 : Addr) (rd : Int32) (rc : Int32) (fm : Int32) (RE : List Int32) (RM : List Int32) (ae : Addr) (am : Addr) (ke : ClassId) (km : ClassId) (h0 : Heap) (n0 : Nat) (v : Option Value) (h : Heap) (L : List Loc) : Prop := v = none ∧ Fr n0 L ∧ Keep h0 h [a1] ∧ own_SS Z h a1 (rd + 1) 0 0 RE RM ae am ke km
set_option maxRecDepth 65536 in
set_option maxHeartbeats 40000000 in
theorem rm_newRound (l : Launch) (Z : State) (a0 : Array Value) (hw : ∀ d ∈ tables_1, d.before a0 Z = true) (ws : List Jvm.Cond) (a1 : Addr) (rd : Int32) (rc : Int32) (fm : Int32) (RE : List Int32) (RM : List Int32) (ae : Addr) (am : Addr) (ke : ClassId) (km : ClassId) (h0 : Heap) (n0 : Nat) (Z0 : n0 ≤ h0.size) (S1 : own_SS Z h0 a1 rd rc fm RE RM ae am ke km) (n1 : a1 ≠ ae) (n2 : a1 ≠ am) (n3 : ae ≠ am) (g_a1 : n0 ≤ a1) (g_ae : n0 ≤ ae) (g_am : n0 ≤ am) :
    MetFree l (⟨"com/example/ariadne/ariadne/algo/SplitSearch", "newRound", "()V"⟩ : MethodName) (head1 (Jvm.Cond.code (⟨"com/example/ariadne/ariadne/algo/SplitSearch", "newRound", "()V"⟩ : MethodName) prog_51_method_2_code 1 none :: ws) ({ frames := 0, cells := 0, slots := 0, locals := 0 } : Room)) (fun a U => a = #[(.ref a1)] ∧ Z.Warmed39 U.vm ∧ U.heap = h0) (fun _ _ _ _ _ => True) (fun _ U o U' => ∃ v L, o = .returned v ∧ QnewRound Z a1 rd rc fm RE RM ae am ke km h0 n0 v U'.heap L ∧ FrameEnd U o U' L ({ frames := 0, cells := 0, slots := 0, locals := 0 } : Room).cells ({ frames := 0, cells := 0, slots := 0, locals := 0 } : Room).slots) := by
  refine MetFree.of_bodySF (plainFor_of_name pn_3) hisR ?_
  intro p e s m args below meth c s₁ Bd hml0 hP hK
  obtain ⟨rfl, hZ, hh⟩ := hP
  have hx := Bd.exec
  have hby := Bd.bytes
  have hml : c.maxLocals = 1 := hml0
  have hown : s.vm.findClass "com/example/ariadne/ariadne/algo/SplitSearch" = some m.cls := findClass_of_methodNamed Bd.named
  have hnm := (name_of_methodNamed Bd.named Bd.method).1
  have X0 : Stand p l e ({ frames := 0, cells := 0, slots := 0, locals := 0 } : Room) s m #[(.ref a1)] below meth c s₁ [] 0 0 := Stand.of_body Bd
  have e0 : s₁.heap = h0 := by rw [← hh, Bd.state]; rfl
  have N0 := Fr.nil n0
  have k0 : ∀ t, Steps p.tables e below (s₁.setTop (mkF m 0 #[.val (.ref a1)] [])) t → Steps p.tables e below (s₁.setTop (entryFrame m #[(.ref a1)] 1)) t := fun t k => castTop (ef_newRound m a1) k
  obtain ⟨E1, F1a, F1b, F1c, F1d, F1e, F1f, V1e, V1m⟩ := S1
  obtain ⟨T2, X2, e2, st2⟩ := getF X0 hx hZ hown (host := "") (Or.inl (hw _ (List.mem_of_getElem? (i := 40) rfl))) Via.refl e0 F1c (g := (mkF m 2 #[.val (.ref a1)] [(.ref a1), (.ref a1)])) rfl rfl (hb hby d3_2)
  obtain ⟨T3, h3, X3, e3, W3, st3⟩ := putF X2 hx hZ hown (host := "") (Or.inl (hw _ (List.mem_of_getElem? (i := 40) rfl))) Via.refl e2 F1c E1 (Or.inl (hw _ (List.mem_of_getElem? (i := 41) rfl))) (hw _ (List.mem_of_getElem? (i := 2) rfl)) (ty := .int) (by decide) rfl rfl (g := (mkF m 7 #[.val (.ref a1)] [(.int (rd + (1 : Int32))), (.ref a1)])) rfl rfl (hb hby d3_7)
  have N3 := Fr.snoc X3 N0 g_a1
  have F4 : Fld Z h3 a1 "com/example/ariadne/ariadne/algo/SplitSearch" "round" "I" (.int (rd + (1 : Int32))) := F1c.same W3
  have E5 : Exa Z h3 a1 "com/example/ariadne/ariadne/algo/SplitSearch" := E1.wr W3
  have F6 : Fld Z h3 a1 "com/example/ariadne/ariadne/algo/SplitSearch" "reaching" "[I" (.ref ae) := F1a.other W3 (Or.inr (slot_ne (Or.inr (hw _ (List.mem_of_getElem? (i := 28) rfl))) (Or.inl (hw _ (List.mem_of_getElem? (i := 41) rfl))) (by decide) (t := (.array .int)) (t' := .int) (by decide) (by decide)))
  have F7 : Fld Z h3 a1 "com/example/ariadne/ariadne/algo/SplitSearch" "roundMark" "[I" (.ref am) := F1b.other W3 (Or.inr (slot_ne (Or.inr (hw _ (List.mem_of_getElem? (i := 34) rfl))) (Or.inl (hw _ (List.mem_of_getElem? (i := 41) rfl))) (by decide) (t := (.array .int)) (t' := .int) (by decide) (by decide)))
  have F8 : Fld Z h3 a1 "com/example/ariadne/ariadne/algo/SplitSearch" "reachCount" "I" (.int rc) := F1d.other W3 (Or.inr (slot_ne (Or.inl (hw _ (List.mem_of_getElem? (i := 43) rfl))) (Or.inl (hw _ (List.mem_of_getElem? (i := 41) rfl))) (by decide) (t := .int) (t' := .int) (by decide) (by decide)))
  have F9 : Fld Z h3 a1 "com/example/ariadne/ariadne/algo/SplitSearch" "firstMarked" "I" (.int fm) := F1e.other W3 (Or.inr (slot_ne (Or.inl (hw _ (List.mem_of_getElem? (i := 45) rfl))) (Or.inl (hw _ (List.mem_of_getElem? (i := 41) rfl))) (by decide) (t := .int) (t' := .int) (by decide) (by decide)))
  have F10 : Fld Z h3 a1 "com/example/ariadne/ariadne/algo/SplitSearch" "restCount" "I" (.int (0 : Int32)) := F1f.other W3 (Or.inr (slot_ne (Or.inl (hw _ (List.mem_of_getElem? (i := 47) rfl))) (Or.inl (hw _ (List.mem_of_getElem? (i := 41) rfl))) (by decide) (t := .int) (t' := .int) (by decide) (by decide)))
  have V11 : Arv Z h3 ae ke .int 3 (RE.map Value.int) (.int 0) := V1e.other W3 (Ne.symm n1)
  have V12 : Arv Z h3 am km .int 3 (RM.map Value.int) (.int 0) := V1m.other W3 (Ne.symm n2)
  have K13 : Keep h0 h3 [a1] := (Keep.refl h0 [a1]).wr W3 (Or.inl (List.mem_of_getElem? (i := 0) rfl))
  obtain ⟨T14, h14, X14, e14, W14, st14⟩ := putF X3 hx hZ hown (host := "") (Or.inl (hw _ (List.mem_of_getElem? (i := 42) rfl))) Via.refl e3 F8 E5 (Or.inl (hw _ (List.mem_of_getElem? (i := 43) rfl))) (hw _ (List.mem_of_getElem? (i := 2) rfl)) (ty := .int) (by decide) rfl rfl (g := (mkF m 12 #[.val (.ref a1)] [(.int (0 : Int32)), (.ref a1)])) rfl rfl (hb hby d3_12)
  have N14 := Fr.snoc X14 N3 g_a1
  have F15 : Fld Z h14 a1 "com/example/ariadne/ariadne/algo/SplitSearch" "reachCount" "I" (.int (0 : Int32)) := F8.same W14
  have E16 : Exa Z h14 a1 "com/example/ariadne/ariadne/algo/SplitSearch" := E5.wr W14
  have F17 : Fld Z h14 a1 "com/example/ariadne/ariadne/algo/SplitSearch" "reaching" "[I" (.ref ae) := F6.other W14 (Or.inr (slot_ne (Or.inr (hw _ (List.mem_of_getElem? (i := 28) rfl))) (Or.inl (hw _ (List.mem_of_getElem? (i := 43) rfl))) (by decide) (t := (.array .int)) (t' := .int) (by decide) (by decide)))
  have F18 : Fld Z h14 a1 "com/example/ariadne/ariadne/algo/SplitSearch" "roundMark" "[I" (.ref am) := F7.other W14 (Or.inr (slot_ne (Or.inr (hw _ (List.mem_of_getElem? (i := 34) rfl))) (Or.inl (hw _ (List.mem_of_getElem? (i := 43) rfl))) (by decide) (t := (.array .int)) (t' := .int) (by decide) (by decide)))
  have F19 : Fld Z h14 a1 "com/example/ariadne/ariadne/algo/SplitSearch" "round" "I" (.int (rd + (1 : Int32))) := F4.other W14 (Or.inr (slot_ne (Or.inl (hw _ (List.mem_of_getElem? (i := 41) rfl))) (Or.inl (hw _ (List.mem_of_getElem? (i := 43) rfl))) (by decide) (t := .int) (t' := .int) (by decide) (by decide)))
  have F20 : Fld Z h14 a1 "com/example/ariadne/ariadne/algo/SplitSearch" "firstMarked" "I" (.int fm) := F9.other W14 (Or.inr (slot_ne (Or.inl (hw _ (List.mem_of_getElem? (i := 45) rfl))) (Or.inl (hw _ (List.mem_of_getElem? (i := 43) rfl))) (by decide) (t := .int) (t' := .int) (by decide) (by decide)))
  have F21 : Fld Z h14 a1 "com/example/ariadne/ariadne/algo/SplitSearch" "restCount" "I" (.int (0 : Int32)) := F10.other W14 (Or.inr (slot_ne (Or.inl (hw _ (List.mem_of_getElem? (i := 47) rfl))) (Or.inl (hw _ (List.mem_of_getElem? (i := 43) rfl))) (by decide) (t := .int) (t' := .int) (by decide) (by decide)))
  have V22 : Arv Z h14 ae ke .int 3 (RE.map Value.int) (.int 0) := V11.other W14 (Ne.symm n1)
  have V23 : Arv Z h14 am km .int 3 (RM.map Value.int) (.int 0) := V12.other W14 (Ne.symm n2)
  have K24 : Keep h0 h14 [a1] := K13.wr W14 (Or.inl (List.mem_of_getElem? (i := 0) rfl))
  obtain ⟨T25, h25, X25, e25, W25, st25⟩ := putF X14 hx hZ hown (host := "") (Or.inl (hw _ (List.mem_of_getElem? (i := 44) rfl))) Via.refl e14 F20 E16 (Or.inl (hw _ (List.mem_of_getElem? (i := 45) rfl))) (hw _ (List.mem_of_getElem? (i := 2) rfl)) (ty := .int) (by decide) rfl rfl (g := (mkF m 17 #[.val (.ref a1)] [(.int (0 : Int32)), (.ref a1)])) rfl rfl (hb hby d3_17)
  have N25 := Fr.snoc X25 N14 g_a1
  have F26 : Fld Z h25 a1 "com/example/ariadne/ariadne/algo/SplitSearch" "firstMarked" "I" (.int (0 : Int32)) := F20.same W25
  have E27 : Exa Z h25 a1 "com/example/ariadne/ariadne/algo/SplitSearch" := E16.wr W25
  have F28 : Fld Z h25 a1 "com/example/ariadne/ariadne/algo/SplitSearch" "reaching" "[I" (.ref ae) := F17.other W25 (Or.inr (slot_ne (Or.inr (hw _ (List.mem_of_getElem? (i := 28) rfl))) (Or.inl (hw _ (List.mem_of_getElem? (i := 45) rfl))) (by decide) (t := (.array .int)) (t' := .int) (by decide) (by decide)))
  have F29 : Fld Z h25 a1 "com/example/ariadne/ariadne/algo/SplitSearch" "roundMark" "[I" (.ref am) := F18.other W25 (Or.inr (slot_ne (Or.inr (hw _ (List.mem_of_getElem? (i := 34) rfl))) (Or.inl (hw _ (List.mem_of_getElem? (i := 45) rfl))) (by decide) (t := (.array .int)) (t' := .int) (by decide) (by decide)))
  have F30 : Fld Z h25 a1 "com/example/ariadne/ariadne/algo/SplitSearch" "round" "I" (.int (rd + (1 : Int32))) := F19.other W25 (Or.inr (slot_ne (Or.inl (hw _ (List.mem_of_getElem? (i := 41) rfl))) (Or.inl (hw _ (List.mem_of_getElem? (i := 45) rfl))) (by decide) (t := .int) (t' := .int) (by decide) (by decide)))
  have F31 : Fld Z h25 a1 "com/example/ariadne/ariadne/algo/SplitSearch" "reachCount" "I" (.int (0 : Int32)) := F15.other W25 (Or.inr (slot_ne (Or.inl (hw _ (List.mem_of_getElem? (i := 43) rfl))) (Or.inl (hw _ (List.mem_of_getElem? (i := 45) rfl))) (by decide) (t := .int) (t' := .int) (by decide) (by decide)))
  have F32 : Fld Z h25 a1 "com/example/ariadne/ariadne/algo/SplitSearch" "restCount" "I" (.int (0 : Int32)) := F21.other W25 (Or.inr (slot_ne (Or.inl (hw _ (List.mem_of_getElem? (i := 47) rfl))) (Or.inl (hw _ (List.mem_of_getElem? (i := 45) rfl))) (by decide) (t := .int) (t' := .int) (by decide) (by decide)))
  have V33 : Arv Z h25 ae ke .int 3 (RE.map Value.int) (.int 0) := V22.other W25 (Ne.symm n1)
  have V34 : Arv Z h25 am km .int 3 (RM.map Value.int) (.int 0) := V23.other W25 (Ne.symm n2)
  have K35 : Keep h0 h25 [a1] := K24.wr W25 (Or.inl (List.mem_of_getElem? (i := 0) rfl))
  obtain ⟨T36, h36, X36, e36, W36, st36⟩ := putF X25 hx hZ hown (host := "") (Or.inl (hw _ (List.mem_of_getElem? (i := 46) rfl))) Via.refl e25 F32 E27 (Or.inl (hw _ (List.mem_of_getElem? (i := 47) rfl))) (hw _ (List.mem_of_getElem? (i := 2) rfl)) (ty := .int) (by decide) rfl rfl (g := (mkF m 22 #[.val (.ref a1)] [(.int (0 : Int32)), (.ref a1)])) rfl rfl (hb hby d3_22)
  have N36 := Fr.snoc X36 N25 g_a1
  have F37 : Fld Z h36 a1 "com/example/ariadne/ariadne/algo/SplitSearch" "restCount" "I" (.int (0 : Int32)) := F32.same W36
  have E38 : Exa Z h36 a1 "com/example/ariadne/ariadne/algo/SplitSearch" := E27.wr W36
  have F39 : Fld Z h36 a1 "com/example/ariadne/ariadne/algo/SplitSearch" "reaching" "[I" (.ref ae) := F28.other W36 (Or.inr (slot_ne (Or.inr (hw _ (List.mem_of_getElem? (i := 28) rfl))) (Or.inl (hw _ (List.mem_of_getElem? (i := 47) rfl))) (by decide) (t := (.array .int)) (t' := .int) (by decide) (by decide)))
  have F40 : Fld Z h36 a1 "com/example/ariadne/ariadne/algo/SplitSearch" "roundMark" "[I" (.ref am) := F29.other W36 (Or.inr (slot_ne (Or.inr (hw _ (List.mem_of_getElem? (i := 34) rfl))) (Or.inl (hw _ (List.mem_of_getElem? (i := 47) rfl))) (by decide) (t := (.array .int)) (t' := .int) (by decide) (by decide)))
  have F41 : Fld Z h36 a1 "com/example/ariadne/ariadne/algo/SplitSearch" "round" "I" (.int (rd + (1 : Int32))) := F30.other W36 (Or.inr (slot_ne (Or.inl (hw _ (List.mem_of_getElem? (i := 41) rfl))) (Or.inl (hw _ (List.mem_of_getElem? (i := 47) rfl))) (by decide) (t := .int) (t' := .int) (by decide) (by decide)))
  have F42 : Fld Z h36 a1 "com/example/ariadne/ariadne/algo/SplitSearch" "reachCount" "I" (.int (0 : Int32)) := F31.other W36 (Or.inr (slot_ne (Or.inl (hw _ (List.mem_of_getElem? (i := 43) rfl))) (Or.inl (hw _ (List.mem_of_getElem? (i := 47) rfl))) (by decide) (t := .int) (t' := .int) (by decide) (by decide)))
  have F43 : Fld Z h36 a1 "com/example/ariadne/ariadne/algo/SplitSearch" "firstMarked" "I" (.int (0 : Int32)) := F26.other W36 (Or.inr (slot_ne (Or.inl (hw _ (List.mem_of_getElem? (i := 45) rfl))) (Or.inl (hw _ (List.mem_of_getElem? (i := 47) rfl))) (by decide) (t := .int) (t' := .int) (by decide) (by decide)))
  have V44 : Arv Z h36 ae ke .int 3 (RE.map Value.int) (.int 0) := V33.other W36 (Ne.symm n1)
  have V45 : Arv Z h36 am km .int 3 (RM.map Value.int) (.int 0) := V34.other W36 (Ne.symm n2)
  have K46 : Keep h0 h36 [a1] := K35.wr W36 (Or.inl (List.mem_of_getElem? (i := 0) rfl))
  have k48 : ∀ t, Steps p.tables e below (T36.setTop (mkF m 25 #[.val (.ref a1)] [])) t → Steps p.tables e below (s₁.setTop (entryFrame m #[(.ref a1)] 1)) t := fun t k => k0 t (by
    show Steps p.tables e below (s₁.setTop (mkF m 0 #[.val (.ref a1)] [])) _
    refine XS.aloadN X0.here hx rfl (hb hby d3_0) rfl rfl ?_
    show Steps p.tables e below (s₁.setTop (mkF m 1 #[.val (.ref a1)] [(.ref a1)])) _
    refine XS.dup X0.here hx rfl (hb hby d3_1) rfl rfl ?_
    show Steps p.tables e below (s₁.setTop (mkF m 2 #[.val (.ref a1)] [(.ref a1), (.ref a1)])) _
    refine st2 _ ?_
    show Steps p.tables e below (T2.setTop (mkF m 5 #[.val (.ref a1)] [(.int rd), (.ref a1)])) _
    refine XS.iconst X2.here hx rfl (hb hby d3_5) ?_
    show Steps p.tables e below (T2.setTop (mkF m 6 #[.val (.ref a1)] [(.int (1 : Int32)), (.int rd), (.ref a1)])) _
    refine XS.iadd X2.here hx rfl (hb hby d3_6) rfl ?_
    show Steps p.tables e below (T2.setTop (mkF m 7 #[.val (.ref a1)] [(.int (rd + (1 : Int32))), (.ref a1)])) _
    refine st3 _ ?_
    show Steps p.tables e below (T3.setTop (mkF m 10 #[.val (.ref a1)] [])) _
    refine XS.aloadN X3.here hx rfl (hb hby d3_10) rfl rfl ?_
    show Steps p.tables e below (T3.setTop (mkF m 11 #[.val (.ref a1)] [(.ref a1)])) _
    refine XS.iconst X3.here hx rfl (hb hby d3_11) ?_
    show Steps p.tables e below (T3.setTop (mkF m 12 #[.val (.ref a1)] [(.int (0 : Int32)), (.ref a1)])) _
    refine st14 _ ?_
    show Steps p.tables e below (T14.setTop (mkF m 15 #[.val (.ref a1)] [])) _
    refine XS.aloadN X14.here hx rfl (hb hby d3_15) rfl rfl ?_
    show Steps p.tables e below (T14.setTop (mkF m 16 #[.val (.ref a1)] [(.ref a1)])) _
    refine XS.iconst X14.here hx rfl (hb hby d3_16) ?_
    show Steps p.tables e below (T14.setTop (mkF m 17 #[.val (.ref a1)] [(.int (0 : Int32)), (.ref a1)])) _
    refine st25 _ ?_
    show Steps p.tables e below (T25.setTop (mkF m 20 #[.val (.ref a1)] [])) _
    refine XS.aloadN X25.here hx rfl (hb hby d3_20) rfl rfl ?_
    show Steps p.tables e below (T25.setTop (mkF m 21 #[.val (.ref a1)] [(.ref a1)])) _
    refine XS.iconst X25.here hx rfl (hb hby d3_21) ?_
    show Steps p.tables e below (T25.setTop (mkF m 22 #[.val (.ref a1)] [(.int (0 : Int32)), (.ref a1)])) _
    refine st36 _ ?_
    exact k)
  obtain ⟨fs, hr, hrun, hended, hW, hsame⟩ := X36.leave (v := none) (fun _ => rfl) (BodyLoose.notSynchronized Bd)
  refine ⟨_, _, k48 _ ?_, hrun, hended, _, _, rfl, ?_, ⟨_, rfl⟩, hW, hsame.mono (by decide) (by decide)⟩
  · show Steps p.tables e below (T36.setTop (mkF m 25 #[.val (.ref a1)] [])) _
    exact X36.returnOut hx Bd.returns (hb hby d3_25) hr
  ·
    show QnewRound _ a1 rd rc fm RE RM ae am ke km h0 n0 _ T36.heap _
    rw [e36]
    exact ⟨rfl, N36, K46, ⟨E38, F39, F40, F41, F42, F43, F37, V44, V45⟩⟩
def own_re (p2 p3 rc fm : Int32) (RE : List Int32) : List Int32 := if p3 = (0 : Int32) then (RE.set rc.toNatClampNeg p2) else (((RE.set rc.toNatClampNeg p2).set ((rc + (1 : Int32)) - (1 : Int32)).toNatClampNeg ((RE.set rc.toNatClampNeg p2).getD fm.toNatClampNeg 0)).set fm.toNatClampNeg p2)
def own_fm (p3 fm : Int32) : Int32 := if p3 = (0 : Int32) then fm else fm + 1
theorem own_re_len (p2 p3 rc fm : Int32) (RE : List Int32) : (own_re p2 p3 rc fm RE).length = RE.length := by
  unfold own_re; split <;> simp only [List.length_set]
theorem own_cancel (r : Int32) : (r + (1 : Int32)) - (1 : Int32) = r := by
  have h1 := c_iadd r 1; have h2 := c_isub (r + 1) 1; have r0 := rng32 r; have r2 := rng32 ((r + 1) - 1)
  have z : (1 : Int32).toInt = 1 := by decide
  apply Int32.toInt_inj.mp; rw [z] at h1 h2; omega
theorem own_nat {r : Int32} (h : ¬ r < 0 ∧ r < (3 : Int32)) : r.toNatClampNeg < 3 := by
  have h0 := nat_of h.1; have h1 := Int32.lt_iff_toInt_lt.mp h.2
  have z : (3 : Int32).toInt = 3 := by decide
  omega
theorem d4_0 : decode prog_51_method_4_code 0 = .ok (.aload_n 0, 1) := by decide +kernel
theorem d4_1 : decode prog_51_method_4_code 1 = .ok (.getfield 47, 3) := by decide +kernel
theorem d4_4 : decode prog_51_method_4_code 4 = .ok (.iload_n 1, 1) := by decide +kernel
theorem d4_5 : decode prog_51_method_4_code 5 = .ok (.aload_n 0, 1) := by decide +kernel
theorem d4_6 : decode prog_51_method_4_code 6 = .ok (.getfield 50, 3) := by decide +kernel
theorem d4_9 : decode prog_51_method_4_code 9 = .ok (.iastore, 1) := by decide +kernel
theorem d4_10 : decode prog_51_method_4_code 10 = .ok (.aload_n 0, 1) := by decide +kernel
theorem d4_11 : decode prog_51_method_4_code 11 = .ok (.getfield 38, 3) := by decide +kernel
theorem d4_14 : decode prog_51_method_4_code 14 = .ok (.aload_n 0, 1) := by decide +kernel
theorem d4_15 : decode prog_51_method_4_code 15 = .ok (.dup, 1) := by decide +kernel
theorem d4_16 : decode prog_51_method_4_code 16 = .ok (.getfield 54, 3) := by decide +kernel
theorem d4_19 : decode prog_51_method_4_code 19 = .ok (.dup_x1, 1) := by decide +kernel
theorem d4_20 : decode prog_51_method_4_code 20 = .ok (.iconst 1, 1) := by decide +kernel
theorem d4_21 : decode prog_51_method_4_code 21 = .ok (.iadd, 1) := by decide +kernel
theorem d4_22 : decode prog_51_method_4_code 22 = .ok (.putfield 54, 3) := by decide +kernel
theorem d4_25 : decode prog_51_method_4_code 25 = .ok (.iload_n 1, 1) := by decide +kernel
theorem d4_26 : decode prog_51_method_4_code 26 = .ok (.iastore, 1) := by decide +kernel
theorem d4_27 : decode prog_51_method_4_code 27 = .ok (.iload_n 2, 1) := by decide +kernel
theorem d4_28 : decode prog_51_method_4_code 28 = .ok (.ifCond .eq 40, 3) := by decide +kernel
theorem d4_31 : decode prog_51_method_4_code 31 = .ok (.aload_n 0, 1) := by decide +kernel
theorem d4_32 : decode prog_51_method_4_code 32 = .ok (.getfield 38, 3) := by decide +kernel
theorem d4_35 : decode prog_51_method_4_code 35 = .ok (.aload_n 0, 1) := by decide +kernel
theorem d4_36 : decode prog_51_method_4_code 36 = .ok (.getfield 54, 3) := by decide +kernel
theorem d4_39 : decode prog_51_method_4_code 39 = .ok (.iconst 1, 1) := by decide +kernel
theorem d4_40 : decode prog_51_method_4_code 40 = .ok (.isub, 1) := by decide +kernel
theorem d4_41 : decode prog_51_method_4_code 41 = .ok (.aload_n 0, 1) := by decide +kernel
theorem d4_42 : decode prog_51_method_4_code 42 = .ok (.getfield 38, 3) := by decide +kernel
theorem d4_45 : decode prog_51_method_4_code 45 = .ok (.aload_n 0, 1) := by decide +kernel
theorem d4_46 : decode prog_51_method_4_code 46 = .ok (.getfield 57, 3) := by decide +kernel
theorem d4_49 : decode prog_51_method_4_code 49 = .ok (.iaload, 1) := by decide +kernel
theorem d4_50 : decode prog_51_method_4_code 50 = .ok (.iastore, 1) := by decide +kernel
theorem d4_51 : decode prog_51_method_4_code 51 = .ok (.aload_n 0, 1) := by decide +kernel
theorem d4_52 : decode prog_51_method_4_code 52 = .ok (.getfield 38, 3) := by decide +kernel
theorem d4_55 : decode prog_51_method_4_code 55 = .ok (.aload_n 0, 1) := by decide +kernel
theorem d4_56 : decode prog_51_method_4_code 56 = .ok (.dup, 1) := by decide +kernel
theorem d4_57 : decode prog_51_method_4_code 57 = .ok (.getfield 57, 3) := by decide +kernel
theorem d4_60 : decode prog_51_method_4_code 60 = .ok (.dup_x1, 1) := by decide +kernel
theorem d4_61 : decode prog_51_method_4_code 61 = .ok (.iconst 1, 1) := by decide +kernel
theorem d4_62 : decode prog_51_method_4_code 62 = .ok (.iadd, 1) := by decide +kernel
theorem d4_63 : decode prog_51_method_4_code 63 = .ok (.putfield 57, 3) := by decide +kernel
theorem d4_66 : decode prog_51_method_4_code 66 = .ok (.iload_n 1, 1) := by decide +kernel
theorem d4_67 : decode prog_51_method_4_code 67 = .ok (.iastore, 1) := by decide +kernel
theorem d4_68 : decode prog_51_method_4_code 68 = .ok (.return_, 1) := by decide +kernel
theorem pn_4 : plainName "com/example/ariadne/ariadne/algo/SplitSearch" = true := by first | (simp [plainName, overriddenIn]; done) | decide +kernel
theorem ef_mark (m : MethodId) (x0 : Addr) (x1 : Int32) (x2 : Int32) : entryFrame m #[(.ref x0), (.int x1), (.int x2)] 3 = mkF m 0 #[.val (.ref x0), .val (.int x1), .val (.int x2)] [] := by first | (simp [entryFrame, mkF, argsToLocals, Value.category]; done) | rfl
def Qmark (Z : State) (a1 : Addr) (p2 : Int32) (p3 : Int32) (rd : Int32) (rc : Int32) (fm : Int32) (RE : List Int32) (RM : List Int32) (ae : Addr) (am : Addr) (ke : ClassId) (km : ClassId) (h0 : Heap) (n0 : Nat) (v : Option Value) (h : Heap) (L : List Loc) : Prop := v = none ∧ Fr n0 L ∧ Keep h0 h [a1, ae, am] ∧ own_SS Z h a1 rd (rc + 1) (own_fm p3 fm) (own_re p2 p3 rc fm RE) (RM.set p2.toNatClampNeg rd) ae am ke km
set_option maxRecDepth 65536 in
set_option maxHeartbeats 40000000 in
theorem rm_mark (l : Launch) (Z : State) (a0 : Array Value) (hw : ∀ d ∈ tables_1, d.before a0 Z = true) (ws : List Jvm.Cond) (a1 : Addr) (p2 : Int32) (p3 : Int32) (rd : Int32) (rc : Int32) (fm : Int32) (RE : List Int32) (RM : List Int32) (ae : Addr) (am : Addr) (ke : ClassId) (km : ClassId) (h0 : Heap) (n0 : Nat) (Z0 : n0 ≤ h0.size) (S1 : own_SS Z h0 a1 rd rc fm RE RM ae am ke km) (n1 : a1 ≠ ae) (n2 : a1 ≠ am) (n3 : ae ≠ am) (g_a1 : n0 ≤ a1) (g_ae : n0 ≤ ae) (g_am : n0 ≤ am) (hp : ¬ p2 < 0 ∧ p2 < (3 : Int32)) (hrc : ¬ rc < 0 ∧ rc < (3 : Int32)) (hfm : ¬ fm < 0 ∧ fm < (3 : Int32)) (lE : RE.length = 3) (lM : RM.length = 3) :
    MetFree l (⟨"com/example/ariadne/ariadne/algo/SplitSearch", "mark", "(IZ)V"⟩ : MethodName) (head1 (Jvm.Cond.code (⟨"com/example/ariadne/ariadne/algo/SplitSearch", "mark", "(IZ)V"⟩ : MethodName) prog_51_method_4_code 3 none :: ws) ({ frames := 0, cells := 0, slots := 0, locals := 0 } : Room)) (fun a U => a = #[(.ref a1), (.int p2), (.int p3)] ∧ Z.Warmed39 U.vm ∧ U.heap = h0) (fun _ _ _ _ _ => True) (fun _ U o U' => ∃ v L, o = .returned v ∧ Qmark Z a1 p2 p3 rd rc fm RE RM ae am ke km h0 n0 v U'.heap L ∧ FrameEnd U o U' L ({ frames := 0, cells := 0, slots := 0, locals := 0 } : Room).cells ({ frames := 0, cells := 0, slots := 0, locals := 0 } : Room).slots) := by
  refine MetFree.of_bodySF (plainFor_of_name pn_4) hisR ?_
  intro p e s m args below meth c s₁ Bd hml0 hP hK
  obtain ⟨rfl, hZ, hh⟩ := hP
  have hx := Bd.exec
  have hby := Bd.bytes
  have hml : c.maxLocals = 3 := hml0
  have hown : s.vm.findClass "com/example/ariadne/ariadne/algo/SplitSearch" = some m.cls := findClass_of_methodNamed Bd.named
  have hnm := (name_of_methodNamed Bd.named Bd.method).1
  have X0 : Stand p l e ({ frames := 0, cells := 0, slots := 0, locals := 0 } : Room) s m #[(.ref a1), (.int p2), (.int p3)] below meth c s₁ [] 0 0 := Stand.of_body Bd
  have e0 : s₁.heap = h0 := by rw [← hh, Bd.state]; rfl
  have N0 := Fr.nil n0
  have k0 : ∀ t, Steps p.tables e below (s₁.setTop (mkF m 0 #[.val (.ref a1), .val (.int p2), .val (.int p3)] [])) t → Steps p.tables e below (s₁.setTop (entryFrame m #[(.ref a1), (.int p2), (.int p3)] 3)) t := fun t k => castTop (ef_mark m a1 p2 p3) k
  obtain ⟨E1, F1a, F1b, F1c, F1d, F1e, F1f, V1e, V1m⟩ := S1
  have hrc' : ¬ ((rc + (1 : Int32)) - (1 : Int32)) < 0 ∧ ((rc + (1 : Int32)) - (1 : Int32)) < (3 : Int32) := by rw [own_cancel]; exact hrc
  obtain ⟨T2, X2, e2, st2⟩ := getF X0 hx hZ hown (host := "") (Or.inl (hw _ (List.mem_of_getElem? (i := 33) rfl))) Via.refl e0 F1b (g := (mkF m 1 #[.val (.ref a1), .val (.int p2), .val (.int p3)] [(.ref a1)])) rfl rfl (hb hby d4_1)
  obtain ⟨T3, X3, e3, st3⟩ := getF X2 hx hZ hown (host := "") (Or.inl (hw _ (List.mem_of_getElem? (i := 40) rfl))) Via.refl e2 F1c (g := (mkF m 6 #[.val (.ref a1), .val (.int p2), .val (.int p3)] [(.ref a1), (.int p2), (.ref am)])) rfl rfl (hb hby d4_6)
  obtain ⟨T4, h4, X4, e4, W4, Vn4, st4⟩ := own_stI X3 hx hZ e3 V1m (j := p2) hp (by rw [lM]; exact own_nat hp) (g := (mkF m 9 #[.val (.ref a1), .val (.int p2), .val (.int p3)] [(.int rd), (.int p2), (.ref am)])) rfl rfl (hb hby d4_9)
  have N4 := Fr.snoc X4 N0 g_am
  have V5 : Arv Z h4 am km .int (3 : Int32) ((RM.set p2.toNatClampNeg rd).map Value.int) (.int 0) := Vn4
  have E6 : Exa Z h4 a1 "com/example/ariadne/ariadne/algo/SplitSearch" := E1.wr W4
  have F7 : Fld Z h4 a1 "com/example/ariadne/ariadne/algo/SplitSearch" "reaching" "[I" (.ref ae) := F1a.other W4 (Or.inl n2)
  have F8 : Fld Z h4 a1 "com/example/ariadne/ariadne/algo/SplitSearch" "roundMark" "[I" (.ref am) := F1b.other W4 (Or.inl n2)
  have F9 : Fld Z h4 a1 "com/example/ariadne/ariadne/algo/SplitSearch" "round" "I" (.int rd) := F1c.other W4 (Or.inl n2)
  have F10 : Fld Z h4 a1 "com/example/ariadne/ariadne/algo/SplitSearch" "reachCount" "I" (.int rc) := F1d.other W4 (Or.inl n2)
  have F11 : Fld Z h4 a1 "com/example/ariadne/ariadne/algo/SplitSearch" "firstMarked" "I" (.int fm) := F1e.other W4 (Or.inl n2)
  have F12 : Fld Z h4 a1 "com/example/ariadne/ariadne/algo/SplitSearch" "restCount" "I" (.int (0 : Int32)) := F1f.other W4 (Or.inl n2)
  have V13 : Arv Z h4 ae ke .int 3 (RE.map Value.int) (.int 0) := V1e.other W4 n3
  have K14 : Keep h0 h4 [a1, ae, am] := (Keep.refl h0 [a1, ae, am]).wr W4 (Or.inl (List.mem_of_getElem? (i := 2) rfl))
  obtain ⟨T15, X15, e15, st15⟩ := getF X4 hx hZ hown (host := "") (Or.inl (hw _ (List.mem_of_getElem? (i := 27) rfl))) Via.refl e4 F7 (g := (mkF m 11 #[.val (.ref a1), .val (.int p2), .val (.int p3)] [(.ref a1)])) rfl rfl (hb hby d4_11)
  obtain ⟨T16, X16, e16, st16⟩ := getF X15 hx hZ hown (host := "") (Or.inl (hw _ (List.mem_of_getElem? (i := 42) rfl))) Via.refl e15 F10 (g := (mkF m 16 #[.val (.ref a1), .val (.int p2), .val (.int p3)] [(.ref a1), (.ref a1), (.ref ae)])) rfl rfl (hb hby d4_16)
  obtain ⟨T17, h17, X17, e17, W17, st17⟩ := putF X16 hx hZ hown (host := "") (Or.inl (hw _ (List.mem_of_getElem? (i := 42) rfl))) Via.refl e16 F10 E6 (Or.inl (hw _ (List.mem_of_getElem? (i := 43) rfl))) (hw _ (List.mem_of_getElem? (i := 2) rfl)) (ty := .int) (by decide) rfl rfl (g := (mkF m 22 #[.val (.ref a1), .val (.int p2), .val (.int p3)] [(.int (rc + (1 : Int32))), (.ref a1), (.int rc), (.ref ae)])) rfl rfl (hb hby d4_22)
  have N17 := Fr.snoc X17 N4 g_a1
  have F18 : Fld Z h17 a1 "com/example/ariadne/ariadne/algo/SplitSearch" "reachCount" "I" (.int (rc + (1 : Int32))) := F10.same W17
  have E19 : Exa Z h17 a1 "com/example/ariadne/ariadne/algo/SplitSearch" := E6.wr W17
  have F20 : Fld Z h17 a1 "com/example/ariadne/ariadne/algo/SplitSearch" "reaching" "[I" (.ref ae) := F7.other W17 (Or.inr (slot_ne (Or.inr (hw _ (List.mem_of_getElem? (i := 28) rfl))) (Or.inl (hw _ (List.mem_of_getElem? (i := 43) rfl))) (by decide) (t := (.array .int)) (t' := .int) (by decide) (by decide)))
  have F21 : Fld Z h17 a1 "com/example/ariadne/ariadne/algo/SplitSearch" "roundMark" "[I" (.ref am) := F8.other W17 (Or.inr (slot_ne (Or.inr (hw _ (List.mem_of_getElem? (i := 34) rfl))) (Or.inl (hw _ (List.mem_of_getElem? (i := 43) rfl))) (by decide) (t := (.array .int)) (t' := .int) (by decide) (by decide)))
  have F22 : Fld Z h17 a1 "com/example/ariadne/ariadne/algo/SplitSearch" "round" "I" (.int rd) := F9.other W17 (Or.inr (slot_ne (Or.inl (hw _ (List.mem_of_getElem? (i := 41) rfl))) (Or.inl (hw _ (List.mem_of_getElem? (i := 43) rfl))) (by decide) (t := .int) (t' := .int) (by decide) (by decide)))
  have F23 : Fld Z h17 a1 "com/example/ariadne/ariadne/algo/SplitSearch" "firstMarked" "I" (.int fm) := F11.other W17 (Or.inr (slot_ne (Or.inl (hw _ (List.mem_of_getElem? (i := 45) rfl))) (Or.inl (hw _ (List.mem_of_getElem? (i := 43) rfl))) (by decide) (t := .int) (t' := .int) (by decide) (by decide)))
  have F24 : Fld Z h17 a1 "com/example/ariadne/ariadne/algo/SplitSearch" "restCount" "I" (.int (0 : Int32)) := F12.other W17 (Or.inr (slot_ne (Or.inl (hw _ (List.mem_of_getElem? (i := 47) rfl))) (Or.inl (hw _ (List.mem_of_getElem? (i := 43) rfl))) (by decide) (t := .int) (t' := .int) (by decide) (by decide)))
  have V25 : Arv Z h17 ae ke .int 3 (RE.map Value.int) (.int 0) := V13.other W17 (Ne.symm n1)
  have V26 : Arv Z h17 am km .int (3 : Int32) ((RM.set p2.toNatClampNeg rd).map Value.int) (.int 0) := V5.other W17 (Ne.symm n2)
  have K27 : Keep h0 h17 [a1, ae, am] := K14.wr W17 (Or.inl (List.mem_of_getElem? (i := 0) rfl))
  obtain ⟨T28, h28, X28, e28, W28, Vn28, st28⟩ := own_stI X17 hx hZ e17 V25 (j := rc) hrc (by rw [lE]; exact own_nat hrc) (g := (mkF m 26 #[.val (.ref a1), .val (.int p2), .val (.int p3)] [(.int p2), (.int rc), (.ref ae)])) rfl rfl (hb hby d4_26)
  have N28 := Fr.snoc X28 N17 g_ae
  have V29 : Arv Z h28 ae ke .int (3 : Int32) ((RE.set rc.toNatClampNeg p2).map Value.int) (.int 0) := Vn28
  have E30 : Exa Z h28 a1 "com/example/ariadne/ariadne/algo/SplitSearch" := E19.wr W28
  have F31 : Fld Z h28 a1 "com/example/ariadne/ariadne/algo/SplitSearch" "reaching" "[I" (.ref ae) := F20.other W28 (Or.inl n1)
  have F32 : Fld Z h28 a1 "com/example/ariadne/ariadne/algo/SplitSearch" "roundMark" "[I" (.ref am) := F21.other W28 (Or.inl n1)
  have F33 : Fld Z h28 a1 "com/example/ariadne/ariadne/algo/SplitSearch" "round" "I" (.int rd) := F22.other W28 (Or.inl n1)
  have F34 : Fld Z h28 a1 "com/example/ariadne/ariadne/algo/SplitSearch" "reachCount" "I" (.int (rc + (1 : Int32))) := F18.other W28 (Or.inl n1)
  have F35 : Fld Z h28 a1 "com/example/ariadne/ariadne/algo/SplitSearch" "firstMarked" "I" (.int fm) := F23.other W28 (Or.inl n1)
  have F36 : Fld Z h28 a1 "com/example/ariadne/ariadne/algo/SplitSearch" "restCount" "I" (.int (0 : Int32)) := F24.other W28 (Or.inl n1)
  have V37 : Arv Z h28 am km .int (3 : Int32) ((RM.set p2.toNatClampNeg rd).map Value.int) (.int 0) := V26.other W28 (Ne.symm n3)
  have K38 : Keep h0 h28 [a1, ae, am] := K27.wr W28 (Or.inl (List.mem_of_getElem? (i := 1) rfl))
  have k39 : ∀ t, Steps p.tables e below (T28.setTop (mkF m 28 #[.val (.ref a1), .val (.int p2), .val (.int p3)] [(.int p3)])) t → Steps p.tables e below (s₁.setTop (entryFrame m #[(.ref a1), (.int p2), (.int p3)] 3)) t := fun t k => k0 t (by
    show Steps p.tables e below (s₁.setTop (mkF m 0 #[.val (.ref a1), .val (.int p2), .val (.int p3)] [])) _
    refine XS.aloadN X0.here hx rfl (hb hby d4_0) rfl rfl ?_
    show Steps p.tables e below (s₁.setTop (mkF m 1 #[.val (.ref a1), .val (.int p2), .val (.int p3)] [(.ref a1)])) _
    refine st2 _ ?_
    show Steps p.tables e below (T2.setTop (mkF m 4 #[.val (.ref a1), .val (.int p2), .val (.int p3)] [(.ref am)])) _
    refine XS.iloadN X2.here hx rfl (hb hby d4_4) rfl ?_
    show Steps p.tables e below (T2.setTop (mkF m 5 #[.val (.ref a1), .val (.int p2), .val (.int p3)] [(.int p2), (.ref am)])) _
    refine XS.aloadN X2.here hx rfl (hb hby d4_5) rfl rfl ?_
    show Steps p.tables e below (T2.setTop (mkF m 6 #[.val (.ref a1), .val (.int p2), .val (.int p3)] [(.ref a1), (.int p2), (.ref am)])) _
    refine st3 _ ?_
    show Steps p.tables e below (T3.setTop (mkF m 9 #[.val (.ref a1), .val (.int p2), .val (.int p3)] [(.int rd), (.int p2), (.ref am)])) _
    refine st4 _ ?_
    show Steps p.tables e below (T4.setTop (mkF m 10 #[.val (.ref a1), .val (.int p2), .val (.int p3)] [])) _
    refine XS.aloadN X4.here hx rfl (hb hby d4_10) rfl rfl ?_
    show Steps p.tables e below (T4.setTop (mkF m 11 #[.val (.ref a1), .val (.int p2), .val (.int p3)] [(.ref a1)])) _
    refine st15 _ ?_
    show Steps p.tables e below (T15.setTop (mkF m 14 #[.val (.ref a1), .val (.int p2), .val (.int p3)] [(.ref ae)])) _
    refine XS.aloadN X15.here hx rfl (hb hby d4_14) rfl rfl ?_
    show Steps p.tables e below (T15.setTop (mkF m 15 #[.val (.ref a1), .val (.int p2), .val (.int p3)] [(.ref a1), (.ref ae)])) _
    refine XS.dup X15.here hx rfl (hb hby d4_15) rfl rfl ?_
    show Steps p.tables e below (T15.setTop (mkF m 16 #[.val (.ref a1), .val (.int p2), .val (.int p3)] [(.ref a1), (.ref a1), (.ref ae)])) _
    refine st16 _ ?_
    show Steps p.tables e below (T16.setTop (mkF m 19 #[.val (.ref a1), .val (.int p2), .val (.int p3)] [(.int rc), (.ref a1), (.ref ae)])) _
    refine XS.dupX1 X16.here hx rfl (hb hby d4_19) rfl rfl rfl ?_
    show Steps p.tables e below (T16.setTop (mkF m 20 #[.val (.ref a1), .val (.int p2), .val (.int p3)] [(.int rc), (.ref a1), (.int rc), (.ref ae)])) _
    refine XS.iconst X16.here hx rfl (hb hby d4_20) ?_
    show Steps p.tables e below (T16.setTop (mkF m 21 #[.val (.ref a1), .val (.int p2), .val (.int p3)] [(.int (1 : Int32)), (.int rc), (.ref a1), (.int rc), (.ref ae)])) _
    refine XS.iadd X16.here hx rfl (hb hby d4_21) rfl ?_
    show Steps p.tables e below (T16.setTop (mkF m 22 #[.val (.ref a1), .val (.int p2), .val (.int p3)] [(.int (rc + (1 : Int32))), (.ref a1), (.int rc), (.ref ae)])) _
    refine st17 _ ?_
    show Steps p.tables e below (T17.setTop (mkF m 25 #[.val (.ref a1), .val (.int p2), .val (.int p3)] [(.int rc), (.ref ae)])) _
    refine XS.iloadN X17.here hx rfl (hb hby d4_25) rfl ?_
    show Steps p.tables e below (T17.setTop (mkF m 26 #[.val (.ref a1), .val (.int p2), .val (.int p3)] [(.int p2), (.int rc), (.ref ae)])) _
    refine st28 _ ?_
    show Steps p.tables e below (T28.setTop (mkF m 27 #[.val (.ref a1), .val (.int p2), .val (.int p3)] [])) _
    refine XS.iloadN X28.here hx rfl (hb hby d4_27) rfl ?_
    exact k)
  by_cases cd28 : p3 = (0 : Int32)
  ·
    have k41 : ∀ t, Steps p.tables e below (T28.setTop (mkF m 68 #[.val (.ref a1), .val (.int p2), .val (.int p3)] [])) t → Steps p.tables e below (s₁.setTop (entryFrame m #[(.ref a1), (.int p2), (.int p3)] 3)) t := fun t k => k39 t (by
      show Steps p.tables e below (T28.setTop (mkF m 28 #[.val (.ref a1), .val (.int p2), .val (.int p3)] [(.int p3)])) _
      refine XS.ifYes X28.here hx rfl (pc0 := 28) (pc' := 68) rfl (hb hby d4_28) rfl ((if0 _ _).trans (teq cd28).1) (by decide) (by decide) ?_
      exact k)
    obtain ⟨fs, hr, hrun, hended, hW, hsame⟩ := X28.leave (v := none) (fun _ => rfl) (BodyLoose.notSynchronized Bd)
    refine ⟨_, _, k41 _ ?_, hrun, hended, _, _, rfl, ?_, ⟨_, rfl⟩, hW, hsame.mono (by decide) (by decide)⟩
    · show Steps p.tables e below (T28.setTop (mkF m 68 #[.val (.ref a1), .val (.int p2), .val (.int p3)] [])) _
      exact X28.returnOut hx Bd.returns (hb hby d4_68) hr
    ·
      show Qmark _ a1 p2 p3 rd rc fm RE RM ae am ke km h0 n0 _ T28.heap _
      rw [e28]
      exact ⟨rfl, N28, K38, by
      rw [show own_fm p3 fm = _ from if_pos cd28, show own_re p2 p3 rc fm RE = _ from if_pos cd28]
      exact ⟨E30, F31, F32, F33, F34, F35, F36, V29, V37⟩⟩
  ·
    obtain ⟨T42, X42, e42, st42⟩ := getF X28 hx hZ hown (host := "") (Or.inl (hw _ (List.mem_of_getElem? (i := 27) rfl))) Via.refl e28 F31 (g := (mkF m 32 #[.val (.ref a1), .val (.int p2), .val (.int p3)] [(.ref a1)])) rfl rfl (hb hby d4_32)
    obtain ⟨T43, X43, e43, st43⟩ := getF X42 hx hZ hown (host := "") (Or.inl (hw _ (List.mem_of_getElem? (i := 42) rfl))) Via.refl e42 F34 (g := (mkF m 36 #[.val (.ref a1), .val (.int p2), .val (.int p3)] [(.ref a1), (.ref ae)])) rfl rfl (hb hby d4_36)
    obtain ⟨T44, X44, e44, st44⟩ := getF X43 hx hZ hown (host := "") (Or.inl (hw _ (List.mem_of_getElem? (i := 27) rfl))) Via.refl e43 F31 (g := (mkF m 42 #[.val (.ref a1), .val (.int p2), .val (.int p3)] [(.ref a1), (.int ((rc + (1 : Int32)) - (1 : Int32))), (.ref ae)])) rfl rfl (hb hby d4_42)
    obtain ⟨T45, X45, e45, st45⟩ := getF X44 hx hZ hown (host := "") (Or.inl (hw _ (List.mem_of_getElem? (i := 44) rfl))) Via.refl e44 F35 (g := (mkF m 46 #[.val (.ref a1), .val (.int p2), .val (.int p3)] [(.ref a1), (.ref ae), (.int ((rc + (1 : Int32)) - (1 : Int32))), (.ref ae)])) rfl rfl (hb hby d4_46)
    obtain ⟨T46, h46, X46, e46, W46, Vn46, st46⟩ := own_stI X45 hx hZ e45 V29 (j := ((rc + (1 : Int32)) - (1 : Int32))) hrc' (by rw [List.length_set, lE]; exact own_nat hrc') (g := (mkF m 50 #[.val (.ref a1), .val (.int p2), .val (.int p3)] [(.int ((RE.set rc.toNatClampNeg p2).getD fm.toNatClampNeg 0)), (.int ((rc + (1 : Int32)) - (1 : Int32))), (.ref ae)])) rfl rfl (hb hby d4_50)
    have N46 := Fr.snoc X46 N28 g_ae
    have V47 : Arv Z h46 ae ke .int (3 : Int32) (((RE.set rc.toNatClampNeg p2).set ((rc + (1 : Int32)) - (1 : Int32)).toNatClampNeg ((RE.set rc.toNatClampNeg p2).getD fm.toNatClampNeg 0)).map Value.int) (.int 0) := Vn46
    have E48 : Exa Z h46 a1 "com/example/ariadne/ariadne/algo/SplitSearch" := E30.wr W46
    have F49 : Fld Z h46 a1 "com/example/ariadne/ariadne/algo/SplitSearch" "reaching" "[I" (.ref ae) := F31.other W46 (Or.inl n1)
    have F50 : Fld Z h46 a1 "com/example/ariadne/ariadne/algo/SplitSearch" "roundMark" "[I" (.ref am) := F32.other W46 (Or.inl n1)
    have F51 : Fld Z h46 a1 "com/example/ariadne/ariadne/algo/SplitSearch" "round" "I" (.int rd) := F33.other W46 (Or.inl n1)
    have F52 : Fld Z h46 a1 "com/example/ariadne/ariadne/algo/SplitSearch" "reachCount" "I" (.int (rc + (1 : Int32))) := F34.other W46 (Or.inl n1)
    have F53 : Fld Z h46 a1 "com/example/ariadne/ariadne/algo/SplitSearch" "firstMarked" "I" (.int fm) := F35.other W46 (Or.inl n1)
    have F54 : Fld Z h46 a1 "com/example/ariadne/ariadne/algo/SplitSearch" "restCount" "I" (.int (0 : Int32)) := F36.other W46 (Or.inl n1)
    have V55 : Arv Z h46 am km .int (3 : Int32) ((RM.set p2.toNatClampNeg rd).map Value.int) (.int 0) := V37.other W46 (Ne.symm n3)
    have K56 : Keep h0 h46 [a1, ae, am] := K38.wr W46 (Or.inl (List.mem_of_getElem? (i := 1) rfl))
    obtain ⟨T57, X57, e57, st57⟩ := getF X46 hx hZ hown (host := "") (Or.inl (hw _ (List.mem_of_getElem? (i := 27) rfl))) Via.refl e46 F49 (g := (mkF m 52 #[.val (.ref a1), .val (.int p2), .val (.int p3)] [(.ref a1)])) rfl rfl (hb hby d4_52)
    obtain ⟨T58, X58, e58, st58⟩ := getF X57 hx hZ hown (host := "") (Or.inl (hw _ (List.mem_of_getElem? (i := 44) rfl))) Via.refl e57 F53 (g := (mkF m 57 #[.val (.ref a1), .val (.int p2), .val (.int p3)] [(.ref a1), (.ref a1), (.ref ae)])) rfl rfl (hb hby d4_57)
    obtain ⟨T59, h59, X59, e59, W59, st59⟩ := putF X58 hx hZ hown (host := "") (Or.inl (hw _ (List.mem_of_getElem? (i := 44) rfl))) Via.refl e58 F53 E48 (Or.inl (hw _ (List.mem_of_getElem? (i := 45) rfl))) (hw _ (List.mem_of_getElem? (i := 2) rfl)) (ty := .int) (by decide) rfl rfl (g := (mkF m 63 #[.val (.ref a1), .val (.int p2), .val (.int p3)] [(.int (fm + (1 : Int32))), (.ref a1), (.int fm), (.ref ae)])) rfl rfl (hb hby d4_63)
    have N59 := Fr.snoc X59 N46 g_a1
    have F60 : Fld Z h59 a1 "com/example/ariadne/ariadne/algo/SplitSearch" "firstMarked" "I" (.int (fm + (1 : Int32))) := F53.same W59
    have E61 : Exa Z h59 a1 "com/example/ariadne/ariadne/algo/SplitSearch" := E48.wr W59
    have F62 : Fld Z h59 a1 "com/example/ariadne/ariadne/algo/SplitSearch" "reaching" "[I" (.ref ae) := F49.other W59 (Or.inr (slot_ne (Or.inr (hw _ (List.mem_of_getElem? (i := 28) rfl))) (Or.inl (hw _ (List.mem_of_getElem? (i := 45) rfl))) (by decide) (t := (.array .int)) (t' := .int) (by decide) (by decide)))
    have F63 : Fld Z h59 a1 "com/example/ariadne/ariadne/algo/SplitSearch" "roundMark" "[I" (.ref am) := F50.other W59 (Or.inr (slot_ne (Or.inr (hw _ (List.mem_of_getElem? (i := 34) rfl))) (Or.inl (hw _ (List.mem_of_getElem? (i := 45) rfl))) (by decide) (t := (.array .int)) (t' := .int) (by decide) (by decide)))
    have F64 : Fld Z h59 a1 "com/example/ariadne/ariadne/algo/SplitSearch" "round" "I" (.int rd) := F51.other W59 (Or.inr (slot_ne (Or.inl (hw _ (List.mem_of_getElem? (i := 41) rfl))) (Or.inl (hw _ (List.mem_of_getElem? (i := 45) rfl))) (by decide) (t := .int) (t' := .int) (by decide) (by decide)))
    have F65 : Fld Z h59 a1 "com/example/ariadne/ariadne/algo/SplitSearch" "reachCount" "I" (.int (rc + (1 : Int32))) := F52.other W59 (Or.inr (slot_ne (Or.inl (hw _ (List.mem_of_getElem? (i := 43) rfl))) (Or.inl (hw _ (List.mem_of_getElem? (i := 45) rfl))) (by decide) (t := .int) (t' := .int) (by decide) (by decide)))
    have F66 : Fld Z h59 a1 "com/example/ariadne/ariadne/algo/SplitSearch" "restCount" "I" (.int (0 : Int32)) := F54.other W59 (Or.inr (slot_ne (Or.inl (hw _ (List.mem_of_getElem? (i := 47) rfl))) (Or.inl (hw _ (List.mem_of_getElem? (i := 45) rfl))) (by decide) (t := .int) (t' := .int) (by decide) (by decide)))
    have V67 : Arv Z h59 ae ke .int (3 : Int32) (((RE.set rc.toNatClampNeg p2).set ((rc + (1 : Int32)) - (1 : Int32)).toNatClampNeg ((RE.set rc.toNatClampNeg p2).getD fm.toNatClampNeg 0)).map Value.int) (.int 0) := V47.other W59 (Ne.symm n1)
    have V68 : Arv Z h59 am km .int (3 : Int32) ((RM.set p2.toNatClampNeg rd).map Value.int) (.int 0) := V55.other W59 (Ne.symm n2)
    have K69 : Keep h0 h59 [a1, ae, am] := K56.wr W59 (Or.inl (List.mem_of_getElem? (i := 0) rfl))
    obtain ⟨T70, h70, X70, e70, W70, Vn70, st70⟩ := own_stI X59 hx hZ e59 V67 (j := fm) hfm (by rw [List.length_set, List.length_set, lE]; exact own_nat hfm) (g := (mkF m 67 #[.val (.ref a1), .val (.int p2), .val (.int p3)] [(.int p2), (.int fm), (.ref ae)])) rfl rfl (hb hby d4_67)
    have N70 := Fr.snoc X70 N59 g_ae
    have V71 : Arv Z h70 ae ke .int (3 : Int32) ((((RE.set rc.toNatClampNeg p2).set ((rc + (1 : Int32)) - (1 : Int32)).toNatClampNeg ((RE.set rc.toNatClampNeg p2).getD fm.toNatClampNeg 0)).set fm.toNatClampNeg p2).map Value.int) (.int 0) := Vn70
    have E72 : Exa Z h70 a1 "com/example/ariadne/ariadne/algo/SplitSearch" := E61.wr W70
    have F73 : Fld Z h70 a1 "com/example/ariadne/ariadne/algo/SplitSearch" "reaching" "[I" (.ref ae) := F62.other W70 (Or.inl n1)
    have F74 : Fld Z h70 a1 "com/example/ariadne/ariadne/algo/SplitSearch" "roundMark" "[I" (.ref am) := F63.other W70 (Or.inl n1)
    have F75 : Fld Z h70 a1 "com/example/ariadne/ariadne/algo/SplitSearch" "round" "I" (.int rd) := F64.other W70 (Or.inl n1)
    have F76 : Fld Z h70 a1 "com/example/ariadne/ariadne/algo/SplitSearch" "reachCount" "I" (.int (rc + (1 : Int32))) := F65.other W70 (Or.inl n1)
    have F77 : Fld Z h70 a1 "com/example/ariadne/ariadne/algo/SplitSearch" "firstMarked" "I" (.int (fm + (1 : Int32))) := F60.other W70 (Or.inl n1)
    have F78 : Fld Z h70 a1 "com/example/ariadne/ariadne/algo/SplitSearch" "restCount" "I" (.int (0 : Int32)) := F66.other W70 (Or.inl n1)
    have V79 : Arv Z h70 am km .int (3 : Int32) ((RM.set p2.toNatClampNeg rd).map Value.int) (.int 0) := V68.other W70 (Ne.symm n3)
    have K80 : Keep h0 h70 [a1, ae, am] := K69.wr W70 (Or.inl (List.mem_of_getElem? (i := 1) rfl))
    have k82 : ∀ t, Steps p.tables e below (T70.setTop (mkF m 68 #[.val (.ref a1), .val (.int p2), .val (.int p3)] [])) t → Steps p.tables e below (s₁.setTop (entryFrame m #[(.ref a1), (.int p2), (.int p3)] 3)) t := fun t k => k39 t (by
      show Steps p.tables e below (T28.setTop (mkF m 28 #[.val (.ref a1), .val (.int p2), .val (.int p3)] [(.int p3)])) _
      refine XS.ifNo X28.here hx rfl (hb hby d4_28) rfl ((if0 _ _).trans (feq cd28).1) ?_
      show Steps p.tables e below (T28.setTop (mkF m 31 #[.val (.ref a1), .val (.int p2), .val (.int p3)] [])) _
      refine XS.aloadN X28.here hx rfl (hb hby d4_31) rfl rfl ?_
      show Steps p.tables e below (T28.setTop (mkF m 32 #[.val (.ref a1), .val (.int p2), .val (.int p3)] [(.ref a1)])) _
      refine st42 _ ?_
      show Steps p.tables e below (T42.setTop (mkF m 35 #[.val (.ref a1), .val (.int p2), .val (.int p3)] [(.ref ae)])) _
      refine XS.aloadN X42.here hx rfl (hb hby d4_35) rfl rfl ?_
      show Steps p.tables e below (T42.setTop (mkF m 36 #[.val (.ref a1), .val (.int p2), .val (.int p3)] [(.ref a1), (.ref ae)])) _
      refine st43 _ ?_
      show Steps p.tables e below (T43.setTop (mkF m 39 #[.val (.ref a1), .val (.int p2), .val (.int p3)] [(.int (rc + (1 : Int32))), (.ref ae)])) _
      refine XS.iconst X43.here hx rfl (hb hby d4_39) ?_
      show Steps p.tables e below (T43.setTop (mkF m 40 #[.val (.ref a1), .val (.int p2), .val (.int p3)] [(.int (1 : Int32)), (.int (rc + (1 : Int32))), (.ref ae)])) _
      refine XS.isub X43.here hx rfl (hb hby d4_40) rfl ?_
      show Steps p.tables e below (T43.setTop (mkF m 41 #[.val (.ref a1), .val (.int p2), .val (.int p3)] [(.int ((rc + (1 : Int32)) - (1 : Int32))), (.ref ae)])) _
      refine XS.aloadN X43.here hx rfl (hb hby d4_41) rfl rfl ?_
      show Steps p.tables e below (T43.setTop (mkF m 42 #[.val (.ref a1), .val (.int p2), .val (.int p3)] [(.ref a1), (.int ((rc + (1 : Int32)) - (1 : Int32))), (.ref ae)])) _
      refine st44 _ ?_
      show Steps p.tables e below (T44.setTop (mkF m 45 #[.val (.ref a1), .val (.int p2), .val (.int p3)] [(.ref ae), (.int ((rc + (1 : Int32)) - (1 : Int32))), (.ref ae)])) _
      refine XS.aloadN X44.here hx rfl (hb hby d4_45) rfl rfl ?_
      show Steps p.tables e below (T44.setTop (mkF m 46 #[.val (.ref a1), .val (.int p2), .val (.int p3)] [(.ref a1), (.ref ae), (.int ((rc + (1 : Int32)) - (1 : Int32))), (.ref ae)])) _
      refine st45 _ ?_
      show Steps p.tables e below (T45.setTop (mkF m 49 #[.val (.ref a1), .val (.int p2), .val (.int p3)] [(.int fm), (.ref ae), (.int ((rc + (1 : Int32)) - (1 : Int32))), (.ref ae)])) _
      refine own_ldI X45 hx hZ e45 V29 hfm (g := (mkF m 49 #[.val (.ref a1), .val (.int p2), .val (.int p3)] [(.int fm), (.ref ae), (.int ((rc + (1 : Int32)) - (1 : Int32))), (.ref ae)])) rfl rfl (hb hby d4_49) _ ?_
      show Steps p.tables e below (T45.setTop (mkF m 50 #[.val (.ref a1), .val (.int p2), .val (.int p3)] [(.int ((RE.set rc.toNatClampNeg p2).getD fm.toNatClampNeg 0)), (.int ((rc + (1 : Int32)) - (1 : Int32))), (.ref ae)])) _
      refine st46 _ ?_
      show Steps p.tables e below (T46.setTop (mkF m 51 #[.val (.ref a1), .val (.int p2), .val (.int p3)] [])) _
      refine XS.aloadN X46.here hx rfl (hb hby d4_51) rfl rfl ?_
      show Steps p.tables e below (T46.setTop (mkF m 52 #[.val (.ref a1), .val (.int p2), .val (.int p3)] [(.ref a1)])) _
      refine st57 _ ?_
      show Steps p.tables e below (T57.setTop (mkF m 55 #[.val (.ref a1), .val (.int p2), .val (.int p3)] [(.ref ae)])) _
      refine XS.aloadN X57.here hx rfl (hb hby d4_55) rfl rfl ?_
      show Steps p.tables e below (T57.setTop (mkF m 56 #[.val (.ref a1), .val (.int p2), .val (.int p3)] [(.ref a1), (.ref ae)])) _
      refine XS.dup X57.here hx rfl (hb hby d4_56) rfl rfl ?_
      show Steps p.tables e below (T57.setTop (mkF m 57 #[.val (.ref a1), .val (.int p2), .val (.int p3)] [(.ref a1), (.ref a1), (.ref ae)])) _
      refine st58 _ ?_
      show Steps p.tables e below (T58.setTop (mkF m 60 #[.val (.ref a1), .val (.int p2), .val (.int p3)] [(.int fm), (.ref a1), (.ref ae)])) _
      refine XS.dupX1 X58.here hx rfl (hb hby d4_60) rfl rfl rfl ?_
      show Steps p.tables e below (T58.setTop (mkF m 61 #[.val (.ref a1), .val (.int p2), .val (.int p3)] [(.int fm), (.ref a1), (.int fm), (.ref ae)])) _
      refine XS.iconst X58.here hx rfl (hb hby d4_61) ?_
      show Steps p.tables e below (T58.setTop (mkF m 62 #[.val (.ref a1), .val (.int p2), .val (.int p3)] [(.int (1 : Int32)), (.int fm), (.ref a1), (.int fm), (.ref ae)])) _
      refine XS.iadd X58.here hx rfl (hb hby d4_62) rfl ?_
      show Steps p.tables e below (T58.setTop (mkF m 63 #[.val (.ref a1), .val (.int p2), .val (.int p3)] [(.int (fm + (1 : Int32))), (.ref a1), (.int fm), (.ref ae)])) _
      refine st59 _ ?_
      show Steps p.tables e below (T59.setTop (mkF m 66 #[.val (.ref a1), .val (.int p2), .val (.int p3)] [(.int fm), (.ref ae)])) _
      refine XS.iloadN X59.here hx rfl (hb hby d4_66) rfl ?_
      show Steps p.tables e below (T59.setTop (mkF m 67 #[.val (.ref a1), .val (.int p2), .val (.int p3)] [(.int p2), (.int fm), (.ref ae)])) _
      refine st70 _ ?_
      exact k)
    obtain ⟨fs, hr, hrun, hended, hW, hsame⟩ := X70.leave (v := none) (fun _ => rfl) (BodyLoose.notSynchronized Bd)
    refine ⟨_, _, k82 _ ?_, hrun, hended, _, _, rfl, ?_, ⟨_, rfl⟩, hW, hsame.mono (by decide) (by decide)⟩
    · show Steps p.tables e below (T70.setTop (mkF m 68 #[.val (.ref a1), .val (.int p2), .val (.int p3)] [])) _
      exact X70.returnOut hx Bd.returns (hb hby d4_68) hr
    ·
      show Qmark _ a1 p2 p3 rd rc fm RE RM ae am ke km h0 n0 _ T70.heap _
      rw [e70]
      exact ⟨rfl, N70, K80, by
      rw [show own_fm p3 fm = _ from if_neg cd28, show own_re p2 p3 rc fm RE = _ from if_neg cd28]
      exact ⟨E72, F73, F74, F75, F76, F77, F78, V71, V79⟩⟩
theorem d5_0 : decode prog_51_method_5_code 0 = .ok (.aload_n 0, 1) := by decide +kernel
theorem d5_1 : decode prog_51_method_5_code 1 = .ok (.getfield 54, 3) := by decide +kernel
theorem d5_4 : decode prog_51_method_5_code 4 = .ok (.ireturn, 1) := by decide +kernel
theorem pn_5 : plainName "com/example/ariadne/ariadne/algo/SplitSearch" = true := by first | (simp [plainName, overriddenIn]; done) | decide +kernel
theorem ef_count (m : MethodId) (x0 : Addr) : entryFrame m #[(.ref x0)] 1 = mkF m 0 #[.val (.ref x0)] [] := by first | (simp [entryFrame, mkF, argsToLocals, Value.category]; done) | rfl
def Qcount (Z : State) (a1 : Addr) (w : Int32) (h0 : Heap) (n0 : Nat) (v : Option Value) (h : Heap) (L : List Loc) : Prop := v = some (.int w) ∧ Fr n0 L ∧ h = h0
set_option maxRecDepth 65536 in
set_option maxHeartbeats 40000000 in
theorem rm_count (l : Launch) (Z : State) (a0 : Array Value) (hw : ∀ d ∈ tables_1, d.before a0 Z = true) (ws : List Jvm.Cond) (a1 : Addr) (w : Int32) (h0 : Heap) (n0 : Nat) (Z0 : n0 ≤ h0.size) (F1 : Fld Z h0 a1 "com/example/ariadne/ariadne/algo/SplitSearch" "reachCount" "I" (.int w)) :
    MetFree l (⟨"com/example/ariadne/ariadne/algo/SplitSearch", "markedCount", "()I"⟩ : MethodName) (head1 (Jvm.Cond.code (⟨"com/example/ariadne/ariadne/algo/SplitSearch", "markedCount", "()I"⟩ : MethodName) prog_51_method_5_code 1 (some .int) :: ws) ({ frames := 0, cells := 0, slots := 0, locals := 0 } : Room)) (fun a U => a = #[(.ref a1)] ∧ Z.Warmed39 U.vm ∧ U.heap = h0) (fun _ _ _ _ _ => True) (fun _ U o U' => ∃ v L, o = .returned v ∧ Qcount Z a1 w h0 n0 v U'.heap L ∧ FrameEnd U o U' L ({ frames := 0, cells := 0, slots := 0, locals := 0 } : Room).cells ({ frames := 0, cells := 0, slots := 0, locals := 0 } : Room).slots) := by
  refine MetFree.of_bodySF (plainFor_of_name pn_5) hisR ?_
  intro p e s m args below meth c s₁ Bd hml0 hP hK
  obtain ⟨rfl, hZ, hh⟩ := hP
  have hx := Bd.exec
  have hby := Bd.bytes
  have hml : c.maxLocals = 1 := hml0
  have hown : s.vm.findClass "com/example/ariadne/ariadne/algo/SplitSearch" = some m.cls := findClass_of_methodNamed Bd.named
  have hnm := (name_of_methodNamed Bd.named Bd.method).1
  have X0 : Stand p l e ({ frames := 0, cells := 0, slots := 0, locals := 0 } : Room) s m #[(.ref a1)] below meth c s₁ [] 0 0 := Stand.of_body Bd
  have e0 : s₁.heap = h0 := by rw [← hh, Bd.state]; rfl
  have N0 := Fr.nil n0
  have k0 : ∀ t, Steps p.tables e below (s₁.setTop (mkF m 0 #[.val (.ref a1)] [])) t → Steps p.tables e below (s₁.setTop (entryFrame m #[(.ref a1)] 1)) t := fun t k => castTop (ef_count m a1) k
  obtain ⟨T1, X1, e1, st1⟩ := getF X0 hx hZ hown (host := "") (Or.inl (hw _ (List.mem_of_getElem? (i := 42) rfl))) Via.refl e0 F1 (g := (mkF m 1 #[.val (.ref a1)] [(.ref a1)])) rfl rfl (hb hby d5_1)
  have k3 : ∀ t, Steps p.tables e below (T1.setTop (mkF m 4 #[.val (.ref a1)] [(.int w)])) t → Steps p.tables e below (s₁.setTop (entryFrame m #[(.ref a1)] 1)) t := fun t k => k0 t (by
    show Steps p.tables e below (s₁.setTop (mkF m 0 #[.val (.ref a1)] [])) _
    refine XS.aloadN X0.here hx rfl (hb hby d5_0) rfl rfl ?_
    show Steps p.tables e below (s₁.setTop (mkF m 1 #[.val (.ref a1)] [(.ref a1)])) _
    refine st1 _ ?_
    exact k)
  obtain ⟨fs, hr, hrun, hended, hW, hsame⟩ := X1.leave (v := some (.int w)) (fun h => by rw [Bd.returns] at h; cases h) (BodyLoose.notSynchronized Bd)
  refine ⟨_, _, k3 _ ?_, hrun, hended, _, _, rfl, ?_, ⟨_, rfl⟩, hW, hsame.mono (by decide) (by decide)⟩
  · show Steps p.tables e below (T1.setTop (mkF m 4 #[.val (.ref a1)] [(.int w)])) _
    exact retI X1 hx Bd.returns (hb hby d5_4) hr
  ·
    show Qcount _ a1 w h0 n0 _ T1.heap _
    rw [e1]
    exact ⟨rfl, N0, rfl⟩
theorem d6_0 : decode prog_51_method_6_code 0 = .ok (.aload_n 0, 1) := by decide +kernel
theorem d6_1 : decode prog_51_method_6_code 1 = .ok (.getfield 38, 3) := by decide +kernel
theorem d6_4 : decode prog_51_method_6_code 4 = .ok (.iload_n 1, 1) := by decide +kernel
theorem d6_5 : decode prog_51_method_6_code 5 = .ok (.iaload, 1) := by decide +kernel
theorem d6_6 : decode prog_51_method_6_code 6 = .ok (.ireturn, 1) := by decide +kernel
theorem pn_6 : plainName "com/example/ariadne/ariadne/algo/SplitSearch" = true := by first | (simp [plainName, overriddenIn]; done) | decide +kernel
theorem ef_marked (m : MethodId) (x0 : Addr) (x1 : Int32) : entryFrame m #[(.ref x0), (.int x1)] 2 = mkF m 0 #[.val (.ref x0), .val (.int x1)] [] := by first | (simp [entryFrame, mkF, argsToLocals, Value.category]; done) | rfl
def Qmarked (Z : State) (a1 : Addr) (p2 : Int32) (ae : Addr) (ke : ClassId) (RE : List Int32) (h0 : Heap) (n0 : Nat) (v : Option Value) (h : Heap) (L : List Loc) : Prop := v = some (.int (RE.getD p2.toNatClampNeg 0)) ∧ Fr n0 L ∧ h = h0
set_option maxRecDepth 65536 in
set_option maxHeartbeats 40000000 in
theorem rm_marked (l : Launch) (Z : State) (a0 : Array Value) (hw : ∀ d ∈ tables_1, d.before a0 Z = true) (ws : List Jvm.Cond) (a1 : Addr) (p2 : Int32) (ae : Addr) (ke : ClassId) (RE : List Int32) (h0 : Heap) (n0 : Nat) (Z0 : n0 ≤ h0.size) (F1 : Fld Z h0 a1 "com/example/ariadne/ariadne/algo/SplitSearch" "reaching" "[I" (.ref ae)) (V1 : Arv Z h0 ae ke .int 3 (RE.map Value.int) (.int 0)) (hp : ¬ p2 < 0 ∧ p2 < (3 : Int32)) :
    MetFree l (⟨"com/example/ariadne/ariadne/algo/SplitSearch", "marked", "(I)I"⟩ : MethodName) (head1 (Jvm.Cond.code (⟨"com/example/ariadne/ariadne/algo/SplitSearch", "marked", "(I)I"⟩ : MethodName) prog_51_method_6_code 2 (some .int) :: ws) ({ frames := 0, cells := 0, slots := 0, locals := 0 } : Room)) (fun a U => a = #[(.ref a1), (.int p2)] ∧ Z.Warmed39 U.vm ∧ U.heap = h0) (fun _ _ _ _ _ => True) (fun _ U o U' => ∃ v L, o = .returned v ∧ Qmarked Z a1 p2 ae ke RE h0 n0 v U'.heap L ∧ FrameEnd U o U' L ({ frames := 0, cells := 0, slots := 0, locals := 0 } : Room).cells ({ frames := 0, cells := 0, slots := 0, locals := 0 } : Room).slots) := by
  refine MetFree.of_bodySF (plainFor_of_name pn_6) hisR ?_
  intro p e s m args below meth c s₁ Bd hml0 hP hK
  obtain ⟨rfl, hZ, hh⟩ := hP
  have hx := Bd.exec
  have hby := Bd.bytes
  have hml : c.maxLocals = 2 := hml0
  have hown : s.vm.findClass "com/example/ariadne/ariadne/algo/SplitSearch" = some m.cls := findClass_of_methodNamed Bd.named
  have hnm := (name_of_methodNamed Bd.named Bd.method).1
  have X0 : Stand p l e ({ frames := 0, cells := 0, slots := 0, locals := 0 } : Room) s m #[(.ref a1), (.int p2)] below meth c s₁ [] 0 0 := Stand.of_body Bd
  have e0 : s₁.heap = h0 := by rw [← hh, Bd.state]; rfl
  have N0 := Fr.nil n0
  have k0 : ∀ t, Steps p.tables e below (s₁.setTop (mkF m 0 #[.val (.ref a1), .val (.int p2)] [])) t → Steps p.tables e below (s₁.setTop (entryFrame m #[(.ref a1), (.int p2)] 2)) t := fun t k => castTop (ef_marked m a1 p2) k
  obtain ⟨T1, X1, e1, st1⟩ := getF X0 hx hZ hown (host := "") (Or.inl (hw _ (List.mem_of_getElem? (i := 27) rfl))) Via.refl e0 F1 (g := (mkF m 1 #[.val (.ref a1), .val (.int p2)] [(.ref a1)])) rfl rfl (hb hby d6_1)
  have k3 : ∀ t, Steps p.tables e below (T1.setTop (mkF m 6 #[.val (.ref a1), .val (.int p2)] [(.int (RE.getD p2.toNatClampNeg 0))])) t → Steps p.tables e below (s₁.setTop (entryFrame m #[(.ref a1), (.int p2)] 2)) t := fun t k => k0 t (by
    show Steps p.tables e below (s₁.setTop (mkF m 0 #[.val (.ref a1), .val (.int p2)] [])) _
    refine XS.aloadN X0.here hx rfl (hb hby d6_0) rfl rfl ?_
    show Steps p.tables e below (s₁.setTop (mkF m 1 #[.val (.ref a1), .val (.int p2)] [(.ref a1)])) _
    refine st1 _ ?_
    show Steps p.tables e below (T1.setTop (mkF m 4 #[.val (.ref a1), .val (.int p2)] [(.ref ae)])) _
    refine XS.iloadN X1.here hx rfl (hb hby d6_4) rfl ?_
    show Steps p.tables e below (T1.setTop (mkF m 5 #[.val (.ref a1), .val (.int p2)] [(.int p2), (.ref ae)])) _
    refine own_ldI X1 hx hZ e1 V1 hp (g := (mkF m 5 #[.val (.ref a1), .val (.int p2)] [(.int p2), (.ref ae)])) rfl rfl (hb hby d6_5) _ ?_
    exact k)
  obtain ⟨fs, hr, hrun, hended, hW, hsame⟩ := X1.leave (v := some (.int (RE.getD p2.toNatClampNeg 0))) (fun h => by rw [Bd.returns] at h; cases h) (BodyLoose.notSynchronized Bd)
  refine ⟨_, _, k3 _ ?_, hrun, hended, _, _, rfl, ?_, ⟨_, rfl⟩, hW, hsame.mono (by decide) (by decide)⟩
  · show Steps p.tables e below (T1.setTop (mkF m 6 #[.val (.ref a1), .val (.int p2)] [(.int (RE.getD p2.toNatClampNeg 0))])) _
    exact retI X1 hx Bd.returns (hb hby d6_6) hr
  ·
    show Qmarked _ a1 p2 ae ke RE h0 n0 _ T1.heap _
    rw [e1]
    exact ⟨rfl, N0, rfl⟩
def own_ism (p2 : Int32) (RM : List Int32) (rd : Int32) : Int32 := if RM.getD p2.toNatClampNeg 0 = rd then 1 else 0
theorem d8_0 : decode prog_51_method_3_code 0 = .ok (.aload_n 0, 1) := by decide +kernel
theorem d8_1 : decode prog_51_method_3_code 1 = .ok (.getfield 47, 3) := by decide +kernel
theorem d8_4 : decode prog_51_method_3_code 4 = .ok (.iload_n 1, 1) := by decide +kernel
theorem d8_5 : decode prog_51_method_3_code 5 = .ok (.iaload, 1) := by decide +kernel
theorem d8_6 : decode prog_51_method_3_code 6 = .ok (.aload_n 0, 1) := by decide +kernel
theorem d8_7 : decode prog_51_method_3_code 7 = .ok (.getfield 50, 3) := by decide +kernel
theorem d8_10 : decode prog_51_method_3_code 10 = .ok (.if_icmp .ne 7, 3) := by decide +kernel
theorem d8_13 : decode prog_51_method_3_code 13 = .ok (.iconst 1, 1) := by decide +kernel
theorem d8_14 : decode prog_51_method_3_code 14 = .ok (.goto 4, 3) := by decide +kernel
theorem d8_17 : decode prog_51_method_3_code 17 = .ok (.iconst 0, 1) := by decide +kernel
theorem d8_18 : decode prog_51_method_3_code 18 = .ok (.ireturn, 1) := by decide +kernel
theorem pn_8 : plainName "com/example/ariadne/ariadne/algo/SplitSearch" = true := by first | (simp [plainName, overriddenIn]; done) | decide +kernel
theorem ef_isMarked (m : MethodId) (x0 : Addr) (x1 : Int32) : entryFrame m #[(.ref x0), (.int x1)] 2 = mkF m 0 #[.val (.ref x0), .val (.int x1)] [] := by first | (simp [entryFrame, mkF, argsToLocals, Value.category]; done) | rfl
def QisMarked (Z : State) (a1 : Addr) (p2 : Int32) (am : Addr) (km : ClassId) (RM : List Int32) (rd : Int32) (h0 : Heap) (n0 : Nat) (v : Option Value) (h : Heap) (L : List Loc) : Prop := v = some (.int (own_ism p2 RM rd)) ∧ Fr n0 L ∧ h = h0
set_option maxRecDepth 65536 in
set_option maxHeartbeats 40000000 in
theorem rm_isMarked (l : Launch) (Z : State) (a0 : Array Value) (hw : ∀ d ∈ tables_1, d.before a0 Z = true) (ws : List Jvm.Cond) (a1 : Addr) (p2 : Int32) (am : Addr) (km : ClassId) (RM : List Int32) (rd : Int32) (h0 : Heap) (n0 : Nat) (Z0 : n0 ≤ h0.size) (F1 : Fld Z h0 a1 "com/example/ariadne/ariadne/algo/SplitSearch" "roundMark" "[I" (.ref am)) (F2 : Fld Z h0 a1 "com/example/ariadne/ariadne/algo/SplitSearch" "round" "I" (.int rd)) (V1 : Arv Z h0 am km .int 3 (RM.map Value.int) (.int 0)) (hp : ¬ p2 < 0 ∧ p2 < (3 : Int32)) :
    MetFree l (⟨"com/example/ariadne/ariadne/algo/SplitSearch", "isMarked", "(I)Z"⟩ : MethodName) (head1 (Jvm.Cond.code (⟨"com/example/ariadne/ariadne/algo/SplitSearch", "isMarked", "(I)Z"⟩ : MethodName) prog_51_method_3_code 2 (some .boolean) :: ws) ({ frames := 0, cells := 0, slots := 0, locals := 0 } : Room)) (fun a U => a = #[(.ref a1), (.int p2)] ∧ Z.Warmed39 U.vm ∧ U.heap = h0) (fun _ _ _ _ _ => True) (fun _ U o U' => ∃ v L, o = .returned v ∧ QisMarked Z a1 p2 am km RM rd h0 n0 v U'.heap L ∧ FrameEnd U o U' L ({ frames := 0, cells := 0, slots := 0, locals := 0 } : Room).cells ({ frames := 0, cells := 0, slots := 0, locals := 0 } : Room).slots) := by
  refine MetFree.of_bodySF (plainFor_of_name pn_8) hisR ?_
  intro p e s m args below meth c s₁ Bd hml0 hP hK
  obtain ⟨rfl, hZ, hh⟩ := hP
  have hx := Bd.exec
  have hby := Bd.bytes
  have hml : c.maxLocals = 2 := hml0
  have hown : s.vm.findClass "com/example/ariadne/ariadne/algo/SplitSearch" = some m.cls := findClass_of_methodNamed Bd.named
  have hnm := (name_of_methodNamed Bd.named Bd.method).1
  have X0 : Stand p l e ({ frames := 0, cells := 0, slots := 0, locals := 0 } : Room) s m #[(.ref a1), (.int p2)] below meth c s₁ [] 0 0 := Stand.of_body Bd
  have e0 : s₁.heap = h0 := by rw [← hh, Bd.state]; rfl
  have N0 := Fr.nil n0
  have k0 : ∀ t, Steps p.tables e below (s₁.setTop (mkF m 0 #[.val (.ref a1), .val (.int p2)] [])) t → Steps p.tables e below (s₁.setTop (entryFrame m #[(.ref a1), (.int p2)] 2)) t := fun t k => castTop (ef_isMarked m a1 p2) k
  obtain ⟨T1, X1, e1, st1⟩ := getF X0 hx hZ hown (host := "") (Or.inl (hw _ (List.mem_of_getElem? (i := 33) rfl))) Via.refl e0 F1 (g := (mkF m 1 #[.val (.ref a1), .val (.int p2)] [(.ref a1)])) rfl rfl (hb hby d8_1)
  obtain ⟨T2, X2, e2, st2⟩ := getF X1 hx hZ hown (host := "") (Or.inl (hw _ (List.mem_of_getElem? (i := 40) rfl))) Via.refl e1 F2 (g := (mkF m 7 #[.val (.ref a1), .val (.int p2)] [(.ref a1), (.int (RM.getD p2.toNatClampNeg 0))])) rfl rfl (hb hby d8_7)
  have k3 : ∀ t, Steps p.tables e below (T2.setTop (mkF m 10 #[.val (.ref a1), .val (.int p2)] [(.int rd), (.int (RM.getD p2.toNatClampNeg 0))])) t → Steps p.tables e below (s₁.setTop (entryFrame m #[(.ref a1), (.int p2)] 2)) t := fun t k => k0 t (by
    show Steps p.tables e below (s₁.setTop (mkF m 0 #[.val (.ref a1), .val (.int p2)] [])) _
    refine XS.aloadN X0.here hx rfl (hb hby d8_0) rfl rfl ?_
    show Steps p.tables e below (s₁.setTop (mkF m 1 #[.val (.ref a1), .val (.int p2)] [(.ref a1)])) _
    refine st1 _ ?_
    show Steps p.tables e below (T1.setTop (mkF m 4 #[.val (.ref a1), .val (.int p2)] [(.ref am)])) _
    refine XS.iloadN X1.here hx rfl (hb hby d8_4) rfl ?_
    show Steps p.tables e below (T1.setTop (mkF m 5 #[.val (.ref a1), .val (.int p2)] [(.int p2), (.ref am)])) _
    refine own_ldI X1 hx hZ e1 V1 hp (g := (mkF m 5 #[.val (.ref a1), .val (.int p2)] [(.int p2), (.ref am)])) rfl rfl (hb hby d8_5) _ ?_
    show Steps p.tables e below (T1.setTop (mkF m 6 #[.val (.ref a1), .val (.int p2)] [(.int (RM.getD p2.toNatClampNeg 0))])) _
    refine XS.aloadN X1.here hx rfl (hb hby d8_6) rfl rfl ?_
    show Steps p.tables e below (T1.setTop (mkF m 7 #[.val (.ref a1), .val (.int p2)] [(.ref a1), (.int (RM.getD p2.toNatClampNeg 0))])) _
    refine st2 _ ?_
    exact k)
  by_cases cd10 : (RM.getD p2.toNatClampNeg 0) = rd
  ·
    have hv : own_ism p2 RM rd = (1 : Int32) := if_pos cd10
    have k5 : ∀ t, Steps p.tables e below (T2.setTop (mkF m 18 #[.val (.ref a1), .val (.int p2)] [(.int (1 : Int32))])) t → Steps p.tables e below (s₁.setTop (entryFrame m #[(.ref a1), (.int p2)] 2)) t := fun t k => k3 t (by
      show Steps p.tables e below (T2.setTop (mkF m 10 #[.val (.ref a1), .val (.int p2)] [(.int rd), (.int (RM.getD p2.toNatClampNeg 0))])) _
      refine XS.icmpNo X2.here hx rfl (hb hby d8_10) rfl (teq cd10).2 ?_
      show Steps p.tables e below (T2.setTop (mkF m 13 #[.val (.ref a1), .val (.int p2)] [])) _
      refine XS.iconst X2.here hx rfl (hb hby d8_13) ?_
      show Steps p.tables e below (T2.setTop (mkF m 14 #[.val (.ref a1), .val (.int p2)] [(.int (1 : Int32))])) _
      refine XS.goto X2.here hx rfl (pc0 := 14) (pc' := 18) rfl (hb hby d8_14) (by decide) (by decide) ?_
      exact k)
    obtain ⟨fs, hr, hrun, hended, hW, hsame⟩ := X2.leave (v := some (.int (1 : Int32))) (fun h => by rw [Bd.returns] at h; cases h) (BodyLoose.notSynchronized Bd)
    refine ⟨_, _, k5 _ ?_, hrun, hended, _, _, rfl, ?_, ⟨_, rfl⟩, hW, hsame.mono (by decide) (by decide)⟩
    · show Steps p.tables e below (T2.setTop (mkF m 18 #[.val (.ref a1), .val (.int p2)] [(.int (1 : Int32))])) _
      exact retN X2 hx (t := .boolean) Bd.returns (by simp) (hb hby d8_18) hr
    ·
      show QisMarked _ a1 p2 am km RM rd h0 n0 _ T2.heap _
      rw [e2]
      exact ⟨by rw [hv], N0, rfl⟩
  ·
    have hv : own_ism p2 RM rd = (0 : Int32) := if_neg cd10
    have k7 : ∀ t, Steps p.tables e below (T2.setTop (mkF m 18 #[.val (.ref a1), .val (.int p2)] [(.int (0 : Int32))])) t → Steps p.tables e below (s₁.setTop (entryFrame m #[(.ref a1), (.int p2)] 2)) t := fun t k => k3 t (by
      show Steps p.tables e below (T2.setTop (mkF m 10 #[.val (.ref a1), .val (.int p2)] [(.int rd), (.int (RM.getD p2.toNatClampNeg 0))])) _
      refine XS.icmpYes X2.here hx rfl (pc0 := 10) (pc' := 17) rfl (hb hby d8_10) rfl (feq cd10).2 (by decide) (by decide) ?_
      show Steps p.tables e below (T2.setTop (mkF m 17 #[.val (.ref a1), .val (.int p2)] [])) _
      refine XS.iconst X2.here hx rfl (hb hby d8_17) ?_
      exact k)
    obtain ⟨fs, hr, hrun, hended, hW, hsame⟩ := X2.leave (v := some (.int (0 : Int32))) (fun h => by rw [Bd.returns] at h; cases h) (BodyLoose.notSynchronized Bd)
    refine ⟨_, _, k7 _ ?_, hrun, hended, _, _, rfl, ?_, ⟨_, rfl⟩, hW, hsame.mono (by decide) (by decide)⟩
    · show Steps p.tables e below (T2.setTop (mkF m 18 #[.val (.ref a1), .val (.int p2)] [(.int (0 : Int32))])) _
      exact retN X2 hx (t := .boolean) Bd.returns (by simp) (hb hby d8_18) hr
    ·
      show QisMarked _ a1 p2 am km RM rd h0 n0 _ T2.heap _
      rw [e2]
      exact ⟨by rw [hv], N0, rfl⟩
def own_exp (p0 : Int32) (p1 : Int32) (p2 : Int32) (p3 : Int32) (p4 : Int32) : Int32 := (if (0 : Int32) < p1 then (if p2 = p0 then (1 : Int32) else (if (1 : Int32) < p1 then (if p3 = p0 then (1 : Int32) else (if (2 : Int32) < p1 then (if p4 = p0 then (1 : Int32) else (0 : Int32)) else (0 : Int32))) else (if (2 : Int32) < p1 then (if p4 = p0 then (1 : Int32) else (0 : Int32)) else (0 : Int32)))) else (if (1 : Int32) < p1 then (if p3 = p0 then (1 : Int32) else (if (2 : Int32) < p1 then (if p4 = p0 then (1 : Int32) else (0 : Int32)) else (0 : Int32))) else (if (2 : Int32) < p1 then (if p4 = p0 then (1 : Int32) else (0 : Int32)) else (0 : Int32))))
theorem d9_0 : decode method_3_code 0 = .ok (.iload_n 1, 1) := by decide +kernel
theorem d9_1 : decode method_3_code 1 = .ok (.ifCond .le 8, 3) := by decide +kernel
theorem d9_4 : decode method_3_code 4 = .ok (.iload_n 2, 1) := by decide +kernel
theorem d9_5 : decode method_3_code 5 = .ok (.iload_n 0, 1) := by decide +kernel
theorem d9_6 : decode method_3_code 6 = .ok (.if_icmp .eq 24, 3) := by decide +kernel
theorem d9_9 : decode method_3_code 9 = .ok (.iload_n 1, 1) := by decide +kernel
theorem d9_10 : decode method_3_code 10 = .ok (.iconst 1, 1) := by decide +kernel
theorem d9_11 : decode method_3_code 11 = .ok (.if_icmp .le 8, 3) := by decide +kernel
theorem d9_14 : decode method_3_code 14 = .ok (.iload_n 3, 1) := by decide +kernel
theorem d9_15 : decode method_3_code 15 = .ok (.iload_n 0, 1) := by decide +kernel
theorem d9_16 : decode method_3_code 16 = .ok (.if_icmp .eq 14, 3) := by decide +kernel
theorem d9_19 : decode method_3_code 19 = .ok (.iload_n 1, 1) := by decide +kernel
theorem d9_20 : decode method_3_code 20 = .ok (.iconst 2, 1) := by decide +kernel
theorem d9_21 : decode method_3_code 21 = .ok (.if_icmp .le 13, 3) := by decide +kernel
theorem d9_24 : decode method_3_code 24 = .ok (.iload 4, 2) := by decide +kernel
theorem d9_26 : decode method_3_code 26 = .ok (.iload_n 0, 1) := by decide +kernel
theorem d9_27 : decode method_3_code 27 = .ok (.if_icmp .ne 7, 3) := by decide +kernel
theorem d9_30 : decode method_3_code 30 = .ok (.iconst 1, 1) := by decide +kernel
theorem d9_31 : decode method_3_code 31 = .ok (.goto 4, 3) := by decide +kernel
theorem d9_34 : decode method_3_code 34 = .ok (.iconst 0, 1) := by decide +kernel
theorem d9_35 : decode method_3_code 35 = .ok (.ireturn, 1) := by decide +kernel
theorem pn_9 : plainName "com/example/ariadne/ariadne/algo/SplitSearchMarkPinLaw" = true := by first | (simp [plainName, overriddenIn]; done) | decide +kernel
theorem ef_expected (m : MethodId) (x0 : Int32) (x1 : Int32) (x2 : Int32) (x3 : Int32) (x4 : Int32) : entryFrame m #[(.int x0), (.int x1), (.int x2), (.int x3), (.int x4)] 5 = mkF m 0 #[.val (.int x0), .val (.int x1), .val (.int x2), .val (.int x3), .val (.int x4)] [] := by first | (simp [entryFrame, mkF, argsToLocals, Value.category]; done) | rfl
def Qexpected (Z : State) (p0 : Int32) (p1 : Int32) (p2 : Int32) (p3 : Int32) (p4 : Int32) (h0 : Heap) (n0 : Nat) (v : Option Value) (h : Heap) (L : List Loc) : Prop := v = some (.int (own_exp p0 p1 p2 p3 p4)) ∧ Fr n0 L ∧ h = h0
set_option maxRecDepth 65536 in
set_option maxHeartbeats 40000000 in
theorem rm_expected (l : Launch) (Z : State) (a0 : Array Value) (hw : ∀ d ∈ tables_1, d.before a0 Z = true) (ws : List Jvm.Cond) (p0 : Int32) (p1 : Int32) (p2 : Int32) (p3 : Int32) (p4 : Int32) (h0 : Heap) (n0 : Nat) (Z0 : n0 ≤ h0.size) :
    MetFree l (⟨"com/example/ariadne/ariadne/algo/SplitSearchMarkPinLaw", "expectedMarked", "(IIIII)Z"⟩ : MethodName) (head1 (Jvm.Cond.code (⟨"com/example/ariadne/ariadne/algo/SplitSearchMarkPinLaw", "expectedMarked", "(IIIII)Z"⟩ : MethodName) method_3_code 5 (some .boolean) :: ws) ({ frames := 0, cells := 0, slots := 0, locals := 0 } : Room)) (fun a U => a = #[(.int p0), (.int p1), (.int p2), (.int p3), (.int p4)] ∧ Z.Warmed39 U.vm ∧ U.heap = h0) (fun _ _ _ _ _ => True) (fun _ U o U' => ∃ v L, o = .returned v ∧ Qexpected Z p0 p1 p2 p3 p4 h0 n0 v U'.heap L ∧ FrameEnd U o U' L ({ frames := 0, cells := 0, slots := 0, locals := 0 } : Room).cells ({ frames := 0, cells := 0, slots := 0, locals := 0 } : Room).slots) := by
  refine MetFree.of_bodySF (plainFor_of_name pn_9) hisR ?_
  intro p e s m args below meth c s₁ Bd hml0 hP hK
  obtain ⟨rfl, hZ, hh⟩ := hP
  have hx := Bd.exec
  have hby := Bd.bytes
  have hml : c.maxLocals = 5 := hml0
  have hown : s.vm.findClass "com/example/ariadne/ariadne/algo/SplitSearchMarkPinLaw" = some m.cls := findClass_of_methodNamed Bd.named
  have hnm := (name_of_methodNamed Bd.named Bd.method).1
  have X0 : Stand p l e ({ frames := 0, cells := 0, slots := 0, locals := 0 } : Room) s m #[(.int p0), (.int p1), (.int p2), (.int p3), (.int p4)] below meth c s₁ [] 0 0 := Stand.of_body Bd
  have e0 : s₁.heap = h0 := by rw [← hh, Bd.state]; rfl
  have N0 := Fr.nil n0
  have k0 : ∀ t, Steps p.tables e below (s₁.setTop (mkF m 0 #[.val (.int p0), .val (.int p1), .val (.int p2), .val (.int p3), .val (.int p4)] [])) t → Steps p.tables e below (s₁.setTop (entryFrame m #[(.int p0), (.int p1), (.int p2), (.int p3), (.int p4)] 5)) t := fun t k => castTop (ef_expected m p0 p1 p2 p3 p4) k
  have k1 : ∀ t, Steps p.tables e below (s₁.setTop (mkF m 1 #[.val (.int p0), .val (.int p1), .val (.int p2), .val (.int p3), .val (.int p4)] [(.int p1)])) t → Steps p.tables e below (s₁.setTop (entryFrame m #[(.int p0), (.int p1), (.int p2), (.int p3), (.int p4)] 5)) t := fun t k => k0 t (by
    show Steps p.tables e below (s₁.setTop (mkF m 0 #[.val (.int p0), .val (.int p1), .val (.int p2), .val (.int p3), .val (.int p4)] [])) _
    refine XS.iloadN X0.here hx rfl (hb hby d9_0) rfl ?_
    exact k)
  by_cases cd1 : (0 : Int32) < p1
  ·
    have k2 : ∀ t, Steps p.tables e below (s₁.setTop (mkF m 6 #[.val (.int p0), .val (.int p1), .val (.int p2), .val (.int p3), .val (.int p4)] [(.int p0), (.int p2)])) t → Steps p.tables e below (s₁.setTop (entryFrame m #[(.int p0), (.int p1), (.int p2), (.int p3), (.int p4)] 5)) t := fun t k => k1 t (by
      show Steps p.tables e below (s₁.setTop (mkF m 1 #[.val (.int p0), .val (.int p1), .val (.int p2), .val (.int p3), .val (.int p4)] [(.int p1)])) _
      refine XS.ifNo X0.here hx rfl (hb hby d9_1) rfl ((if0 _ _).trans (tlt cd1).2.2.2) ?_
      show Steps p.tables e below (s₁.setTop (mkF m 4 #[.val (.int p0), .val (.int p1), .val (.int p2), .val (.int p3), .val (.int p4)] [])) _
      refine XS.iloadN X0.here hx rfl (hb hby d9_4) rfl ?_
      show Steps p.tables e below (s₁.setTop (mkF m 5 #[.val (.int p0), .val (.int p1), .val (.int p2), .val (.int p3), .val (.int p4)] [(.int p2)])) _
      refine XS.iloadN X0.here hx rfl (hb hby d9_5) rfl ?_
      exact k)
    by_cases cd6 : p2 = p0
    ·
      have hv : own_exp p0 p1 p2 p3 p4 = (1 : Int32) := ((if_pos cd1).trans (if_pos cd6))
      have k4 : ∀ t, Steps p.tables e below (s₁.setTop (mkF m 35 #[.val (.int p0), .val (.int p1), .val (.int p2), .val (.int p3), .val (.int p4)] [(.int (1 : Int32))])) t → Steps p.tables e below (s₁.setTop (entryFrame m #[(.int p0), (.int p1), (.int p2), (.int p3), (.int p4)] 5)) t := fun t k => k2 t (by
        show Steps p.tables e below (s₁.setTop (mkF m 6 #[.val (.int p0), .val (.int p1), .val (.int p2), .val (.int p3), .val (.int p4)] [(.int p0), (.int p2)])) _
        refine XS.icmpYes X0.here hx rfl (pc0 := 6) (pc' := 30) rfl (hb hby d9_6) rfl (teq cd6).1 (by decide) (by decide) ?_
        show Steps p.tables e below (s₁.setTop (mkF m 30 #[.val (.int p0), .val (.int p1), .val (.int p2), .val (.int p3), .val (.int p4)] [])) _
        refine XS.iconst X0.here hx rfl (hb hby d9_30) ?_
        show Steps p.tables e below (s₁.setTop (mkF m 31 #[.val (.int p0), .val (.int p1), .val (.int p2), .val (.int p3), .val (.int p4)] [(.int (1 : Int32))])) _
        refine XS.goto X0.here hx rfl (pc0 := 31) (pc' := 35) rfl (hb hby d9_31) (by decide) (by decide) ?_
        exact k)
      obtain ⟨fs, hr, hrun, hended, hW, hsame⟩ := X0.leave (v := some (.int (1 : Int32))) (fun h => by rw [Bd.returns] at h; cases h) (BodyLoose.notSynchronized Bd)
      refine ⟨_, _, k4 _ ?_, hrun, hended, _, _, rfl, ?_, ⟨_, rfl⟩, hW, hsame.mono (by decide) (by decide)⟩
      · show Steps p.tables e below (s₁.setTop (mkF m 35 #[.val (.int p0), .val (.int p1), .val (.int p2), .val (.int p3), .val (.int p4)] [(.int (1 : Int32))])) _
        exact retN X0 hx (t := .boolean) Bd.returns (by simp) (hb hby d9_35) hr
      ·
        show Qexpected _ p0 p1 p2 p3 p4 h0 n0 _ s₁.heap _
        rw [e0]
        exact ⟨by rw [hv], N0, rfl⟩
    ·
      have k5 : ∀ t, Steps p.tables e below (s₁.setTop (mkF m 11 #[.val (.int p0), .val (.int p1), .val (.int p2), .val (.int p3), .val (.int p4)] [(.int (1 : Int32)), (.int p1)])) t → Steps p.tables e below (s₁.setTop (entryFrame m #[(.int p0), (.int p1), (.int p2), (.int p3), (.int p4)] 5)) t := fun t k => k2 t (by
        show Steps p.tables e below (s₁.setTop (mkF m 6 #[.val (.int p0), .val (.int p1), .val (.int p2), .val (.int p3), .val (.int p4)] [(.int p0), (.int p2)])) _
        refine XS.icmpNo X0.here hx rfl (hb hby d9_6) rfl (feq cd6).1 ?_
        show Steps p.tables e below (s₁.setTop (mkF m 9 #[.val (.int p0), .val (.int p1), .val (.int p2), .val (.int p3), .val (.int p4)] [])) _
        refine XS.iloadN X0.here hx rfl (hb hby d9_9) rfl ?_
        show Steps p.tables e below (s₁.setTop (mkF m 10 #[.val (.int p0), .val (.int p1), .val (.int p2), .val (.int p3), .val (.int p4)] [(.int p1)])) _
        refine XS.iconst X0.here hx rfl (hb hby d9_10) ?_
        exact k)
      by_cases cd11 : (1 : Int32) < p1
      ·
        have k6 : ∀ t, Steps p.tables e below (s₁.setTop (mkF m 16 #[.val (.int p0), .val (.int p1), .val (.int p2), .val (.int p3), .val (.int p4)] [(.int p0), (.int p3)])) t → Steps p.tables e below (s₁.setTop (entryFrame m #[(.int p0), (.int p1), (.int p2), (.int p3), (.int p4)] 5)) t := fun t k => k5 t (by
          show Steps p.tables e below (s₁.setTop (mkF m 11 #[.val (.int p0), .val (.int p1), .val (.int p2), .val (.int p3), .val (.int p4)] [(.int (1 : Int32)), (.int p1)])) _
          refine XS.icmpNo X0.here hx rfl (hb hby d9_11) rfl (tlt cd11).2.2.2 ?_
          show Steps p.tables e below (s₁.setTop (mkF m 14 #[.val (.int p0), .val (.int p1), .val (.int p2), .val (.int p3), .val (.int p4)] [])) _
          refine XS.iloadN X0.here hx rfl (hb hby d9_14) rfl ?_
          show Steps p.tables e below (s₁.setTop (mkF m 15 #[.val (.int p0), .val (.int p1), .val (.int p2), .val (.int p3), .val (.int p4)] [(.int p3)])) _
          refine XS.iloadN X0.here hx rfl (hb hby d9_15) rfl ?_
          exact k)
        by_cases cd16 : p3 = p0
        ·
          have hv : own_exp p0 p1 p2 p3 p4 = (1 : Int32) := ((if_pos cd1).trans ((if_neg cd6).trans ((if_pos cd11).trans (if_pos cd16))))
          have k8 : ∀ t, Steps p.tables e below (s₁.setTop (mkF m 35 #[.val (.int p0), .val (.int p1), .val (.int p2), .val (.int p3), .val (.int p4)] [(.int (1 : Int32))])) t → Steps p.tables e below (s₁.setTop (entryFrame m #[(.int p0), (.int p1), (.int p2), (.int p3), (.int p4)] 5)) t := fun t k => k6 t (by
            show Steps p.tables e below (s₁.setTop (mkF m 16 #[.val (.int p0), .val (.int p1), .val (.int p2), .val (.int p3), .val (.int p4)] [(.int p0), (.int p3)])) _
            refine XS.icmpYes X0.here hx rfl (pc0 := 16) (pc' := 30) rfl (hb hby d9_16) rfl (teq cd16).1 (by decide) (by decide) ?_
            show Steps p.tables e below (s₁.setTop (mkF m 30 #[.val (.int p0), .val (.int p1), .val (.int p2), .val (.int p3), .val (.int p4)] [])) _
            refine XS.iconst X0.here hx rfl (hb hby d9_30) ?_
            show Steps p.tables e below (s₁.setTop (mkF m 31 #[.val (.int p0), .val (.int p1), .val (.int p2), .val (.int p3), .val (.int p4)] [(.int (1 : Int32))])) _
            refine XS.goto X0.here hx rfl (pc0 := 31) (pc' := 35) rfl (hb hby d9_31) (by decide) (by decide) ?_
            exact k)
          obtain ⟨fs, hr, hrun, hended, hW, hsame⟩ := X0.leave (v := some (.int (1 : Int32))) (fun h => by rw [Bd.returns] at h; cases h) (BodyLoose.notSynchronized Bd)
          refine ⟨_, _, k8 _ ?_, hrun, hended, _, _, rfl, ?_, ⟨_, rfl⟩, hW, hsame.mono (by decide) (by decide)⟩
          · show Steps p.tables e below (s₁.setTop (mkF m 35 #[.val (.int p0), .val (.int p1), .val (.int p2), .val (.int p3), .val (.int p4)] [(.int (1 : Int32))])) _
            exact retN X0 hx (t := .boolean) Bd.returns (by simp) (hb hby d9_35) hr
          ·
            show Qexpected _ p0 p1 p2 p3 p4 h0 n0 _ s₁.heap _
            rw [e0]
            exact ⟨by rw [hv], N0, rfl⟩
        ·
          have k9 : ∀ t, Steps p.tables e below (s₁.setTop (mkF m 21 #[.val (.int p0), .val (.int p1), .val (.int p2), .val (.int p3), .val (.int p4)] [(.int (2 : Int32)), (.int p1)])) t → Steps p.tables e below (s₁.setTop (entryFrame m #[(.int p0), (.int p1), (.int p2), (.int p3), (.int p4)] 5)) t := fun t k => k6 t (by
            show Steps p.tables e below (s₁.setTop (mkF m 16 #[.val (.int p0), .val (.int p1), .val (.int p2), .val (.int p3), .val (.int p4)] [(.int p0), (.int p3)])) _
            refine XS.icmpNo X0.here hx rfl (hb hby d9_16) rfl (feq cd16).1 ?_
            show Steps p.tables e below (s₁.setTop (mkF m 19 #[.val (.int p0), .val (.int p1), .val (.int p2), .val (.int p3), .val (.int p4)] [])) _
            refine XS.iloadN X0.here hx rfl (hb hby d9_19) rfl ?_
            show Steps p.tables e below (s₁.setTop (mkF m 20 #[.val (.int p0), .val (.int p1), .val (.int p2), .val (.int p3), .val (.int p4)] [(.int p1)])) _
            refine XS.iconst X0.here hx rfl (hb hby d9_20) ?_
            exact k)
          by_cases cd21 : (2 : Int32) < p1
          ·
            have k10 : ∀ t, Steps p.tables e below (s₁.setTop (mkF m 27 #[.val (.int p0), .val (.int p1), .val (.int p2), .val (.int p3), .val (.int p4)] [(.int p0), (.int p4)])) t → Steps p.tables e below (s₁.setTop (entryFrame m #[(.int p0), (.int p1), (.int p2), (.int p3), (.int p4)] 5)) t := fun t k => k9 t (by
              show Steps p.tables e below (s₁.setTop (mkF m 21 #[.val (.int p0), .val (.int p1), .val (.int p2), .val (.int p3), .val (.int p4)] [(.int (2 : Int32)), (.int p1)])) _
              refine XS.icmpNo X0.here hx rfl (hb hby d9_21) rfl (tlt cd21).2.2.2 ?_
              show Steps p.tables e below (s₁.setTop (mkF m 24 #[.val (.int p0), .val (.int p1), .val (.int p2), .val (.int p3), .val (.int p4)] [])) _
              refine XS.iload X0.here hx rfl (hb hby d9_24) rfl ?_
              show Steps p.tables e below (s₁.setTop (mkF m 26 #[.val (.int p0), .val (.int p1), .val (.int p2), .val (.int p3), .val (.int p4)] [(.int p4)])) _
              refine XS.iloadN X0.here hx rfl (hb hby d9_26) rfl ?_
              exact k)
            by_cases cd27 : p4 = p0
            ·
              have hv : own_exp p0 p1 p2 p3 p4 = (1 : Int32) := ((if_pos cd1).trans ((if_neg cd6).trans ((if_pos cd11).trans ((if_neg cd16).trans ((if_pos cd21).trans (if_pos cd27))))))
              have k12 : ∀ t, Steps p.tables e below (s₁.setTop (mkF m 35 #[.val (.int p0), .val (.int p1), .val (.int p2), .val (.int p3), .val (.int p4)] [(.int (1 : Int32))])) t → Steps p.tables e below (s₁.setTop (entryFrame m #[(.int p0), (.int p1), (.int p2), (.int p3), (.int p4)] 5)) t := fun t k => k10 t (by
                show Steps p.tables e below (s₁.setTop (mkF m 27 #[.val (.int p0), .val (.int p1), .val (.int p2), .val (.int p3), .val (.int p4)] [(.int p0), (.int p4)])) _
                refine XS.icmpNo X0.here hx rfl (hb hby d9_27) rfl (teq cd27).2 ?_
                show Steps p.tables e below (s₁.setTop (mkF m 30 #[.val (.int p0), .val (.int p1), .val (.int p2), .val (.int p3), .val (.int p4)] [])) _
                refine XS.iconst X0.here hx rfl (hb hby d9_30) ?_
                show Steps p.tables e below (s₁.setTop (mkF m 31 #[.val (.int p0), .val (.int p1), .val (.int p2), .val (.int p3), .val (.int p4)] [(.int (1 : Int32))])) _
                refine XS.goto X0.here hx rfl (pc0 := 31) (pc' := 35) rfl (hb hby d9_31) (by decide) (by decide) ?_
                exact k)
              obtain ⟨fs, hr, hrun, hended, hW, hsame⟩ := X0.leave (v := some (.int (1 : Int32))) (fun h => by rw [Bd.returns] at h; cases h) (BodyLoose.notSynchronized Bd)
              refine ⟨_, _, k12 _ ?_, hrun, hended, _, _, rfl, ?_, ⟨_, rfl⟩, hW, hsame.mono (by decide) (by decide)⟩
              · show Steps p.tables e below (s₁.setTop (mkF m 35 #[.val (.int p0), .val (.int p1), .val (.int p2), .val (.int p3), .val (.int p4)] [(.int (1 : Int32))])) _
                exact retN X0 hx (t := .boolean) Bd.returns (by simp) (hb hby d9_35) hr
              ·
                show Qexpected _ p0 p1 p2 p3 p4 h0 n0 _ s₁.heap _
                rw [e0]
                exact ⟨by rw [hv], N0, rfl⟩
            ·
              have hv : own_exp p0 p1 p2 p3 p4 = (0 : Int32) := ((if_pos cd1).trans ((if_neg cd6).trans ((if_pos cd11).trans ((if_neg cd16).trans ((if_pos cd21).trans (if_neg cd27))))))
              have k14 : ∀ t, Steps p.tables e below (s₁.setTop (mkF m 35 #[.val (.int p0), .val (.int p1), .val (.int p2), .val (.int p3), .val (.int p4)] [(.int (0 : Int32))])) t → Steps p.tables e below (s₁.setTop (entryFrame m #[(.int p0), (.int p1), (.int p2), (.int p3), (.int p4)] 5)) t := fun t k => k10 t (by
                show Steps p.tables e below (s₁.setTop (mkF m 27 #[.val (.int p0), .val (.int p1), .val (.int p2), .val (.int p3), .val (.int p4)] [(.int p0), (.int p4)])) _
                refine XS.icmpYes X0.here hx rfl (pc0 := 27) (pc' := 34) rfl (hb hby d9_27) rfl (feq cd27).2 (by decide) (by decide) ?_
                show Steps p.tables e below (s₁.setTop (mkF m 34 #[.val (.int p0), .val (.int p1), .val (.int p2), .val (.int p3), .val (.int p4)] [])) _
                refine XS.iconst X0.here hx rfl (hb hby d9_34) ?_
                exact k)
              obtain ⟨fs, hr, hrun, hended, hW, hsame⟩ := X0.leave (v := some (.int (0 : Int32))) (fun h => by rw [Bd.returns] at h; cases h) (BodyLoose.notSynchronized Bd)
              refine ⟨_, _, k14 _ ?_, hrun, hended, _, _, rfl, ?_, ⟨_, rfl⟩, hW, hsame.mono (by decide) (by decide)⟩
              · show Steps p.tables e below (s₁.setTop (mkF m 35 #[.val (.int p0), .val (.int p1), .val (.int p2), .val (.int p3), .val (.int p4)] [(.int (0 : Int32))])) _
                exact retN X0 hx (t := .boolean) Bd.returns (by simp) (hb hby d9_35) hr
              ·
                show Qexpected _ p0 p1 p2 p3 p4 h0 n0 _ s₁.heap _
                rw [e0]
                exact ⟨by rw [hv], N0, rfl⟩
          ·
            have hv : own_exp p0 p1 p2 p3 p4 = (0 : Int32) := ((if_pos cd1).trans ((if_neg cd6).trans ((if_pos cd11).trans ((if_neg cd16).trans (if_neg cd21)))))
            have k16 : ∀ t, Steps p.tables e below (s₁.setTop (mkF m 35 #[.val (.int p0), .val (.int p1), .val (.int p2), .val (.int p3), .val (.int p4)] [(.int (0 : Int32))])) t → Steps p.tables e below (s₁.setTop (entryFrame m #[(.int p0), (.int p1), (.int p2), (.int p3), (.int p4)] 5)) t := fun t k => k9 t (by
              show Steps p.tables e below (s₁.setTop (mkF m 21 #[.val (.int p0), .val (.int p1), .val (.int p2), .val (.int p3), .val (.int p4)] [(.int (2 : Int32)), (.int p1)])) _
              refine XS.icmpYes X0.here hx rfl (pc0 := 21) (pc' := 34) rfl (hb hby d9_21) rfl (flt cd21).2.2.2 (by decide) (by decide) ?_
              show Steps p.tables e below (s₁.setTop (mkF m 34 #[.val (.int p0), .val (.int p1), .val (.int p2), .val (.int p3), .val (.int p4)] [])) _
              refine XS.iconst X0.here hx rfl (hb hby d9_34) ?_
              exact k)
            obtain ⟨fs, hr, hrun, hended, hW, hsame⟩ := X0.leave (v := some (.int (0 : Int32))) (fun h => by rw [Bd.returns] at h; cases h) (BodyLoose.notSynchronized Bd)
            refine ⟨_, _, k16 _ ?_, hrun, hended, _, _, rfl, ?_, ⟨_, rfl⟩, hW, hsame.mono (by decide) (by decide)⟩
            · show Steps p.tables e below (s₁.setTop (mkF m 35 #[.val (.int p0), .val (.int p1), .val (.int p2), .val (.int p3), .val (.int p4)] [(.int (0 : Int32))])) _
              exact retN X0 hx (t := .boolean) Bd.returns (by simp) (hb hby d9_35) hr
            ·
              show Qexpected _ p0 p1 p2 p3 p4 h0 n0 _ s₁.heap _
              rw [e0]
              exact ⟨by rw [hv], N0, rfl⟩
      ·
        have k17 : ∀ t, Steps p.tables e below (s₁.setTop (mkF m 21 #[.val (.int p0), .val (.int p1), .val (.int p2), .val (.int p3), .val (.int p4)] [(.int (2 : Int32)), (.int p1)])) t → Steps p.tables e below (s₁.setTop (entryFrame m #[(.int p0), (.int p1), (.int p2), (.int p3), (.int p4)] 5)) t := fun t k => k5 t (by
          show Steps p.tables e below (s₁.setTop (mkF m 11 #[.val (.int p0), .val (.int p1), .val (.int p2), .val (.int p3), .val (.int p4)] [(.int (1 : Int32)), (.int p1)])) _
          refine XS.icmpYes X0.here hx rfl (pc0 := 11) (pc' := 19) rfl (hb hby d9_11) rfl (flt cd11).2.2.2 (by decide) (by decide) ?_
          show Steps p.tables e below (s₁.setTop (mkF m 19 #[.val (.int p0), .val (.int p1), .val (.int p2), .val (.int p3), .val (.int p4)] [])) _
          refine XS.iloadN X0.here hx rfl (hb hby d9_19) rfl ?_
          show Steps p.tables e below (s₁.setTop (mkF m 20 #[.val (.int p0), .val (.int p1), .val (.int p2), .val (.int p3), .val (.int p4)] [(.int p1)])) _
          refine XS.iconst X0.here hx rfl (hb hby d9_20) ?_
          exact k)
        by_cases cd21 : (2 : Int32) < p1
        ·
          have k18 : ∀ t, Steps p.tables e below (s₁.setTop (mkF m 27 #[.val (.int p0), .val (.int p1), .val (.int p2), .val (.int p3), .val (.int p4)] [(.int p0), (.int p4)])) t → Steps p.tables e below (s₁.setTop (entryFrame m #[(.int p0), (.int p1), (.int p2), (.int p3), (.int p4)] 5)) t := fun t k => k17 t (by
            show Steps p.tables e below (s₁.setTop (mkF m 21 #[.val (.int p0), .val (.int p1), .val (.int p2), .val (.int p3), .val (.int p4)] [(.int (2 : Int32)), (.int p1)])) _
            refine XS.icmpNo X0.here hx rfl (hb hby d9_21) rfl (tlt cd21).2.2.2 ?_
            show Steps p.tables e below (s₁.setTop (mkF m 24 #[.val (.int p0), .val (.int p1), .val (.int p2), .val (.int p3), .val (.int p4)] [])) _
            refine XS.iload X0.here hx rfl (hb hby d9_24) rfl ?_
            show Steps p.tables e below (s₁.setTop (mkF m 26 #[.val (.int p0), .val (.int p1), .val (.int p2), .val (.int p3), .val (.int p4)] [(.int p4)])) _
            refine XS.iloadN X0.here hx rfl (hb hby d9_26) rfl ?_
            exact k)
          by_cases cd27 : p4 = p0
          ·
            have hv : own_exp p0 p1 p2 p3 p4 = (1 : Int32) := ((if_pos cd1).trans ((if_neg cd6).trans ((if_neg cd11).trans ((if_pos cd21).trans (if_pos cd27)))))
            have k20 : ∀ t, Steps p.tables e below (s₁.setTop (mkF m 35 #[.val (.int p0), .val (.int p1), .val (.int p2), .val (.int p3), .val (.int p4)] [(.int (1 : Int32))])) t → Steps p.tables e below (s₁.setTop (entryFrame m #[(.int p0), (.int p1), (.int p2), (.int p3), (.int p4)] 5)) t := fun t k => k18 t (by
              show Steps p.tables e below (s₁.setTop (mkF m 27 #[.val (.int p0), .val (.int p1), .val (.int p2), .val (.int p3), .val (.int p4)] [(.int p0), (.int p4)])) _
              refine XS.icmpNo X0.here hx rfl (hb hby d9_27) rfl (teq cd27).2 ?_
              show Steps p.tables e below (s₁.setTop (mkF m 30 #[.val (.int p0), .val (.int p1), .val (.int p2), .val (.int p3), .val (.int p4)] [])) _
              refine XS.iconst X0.here hx rfl (hb hby d9_30) ?_
              show Steps p.tables e below (s₁.setTop (mkF m 31 #[.val (.int p0), .val (.int p1), .val (.int p2), .val (.int p3), .val (.int p4)] [(.int (1 : Int32))])) _
              refine XS.goto X0.here hx rfl (pc0 := 31) (pc' := 35) rfl (hb hby d9_31) (by decide) (by decide) ?_
              exact k)
            obtain ⟨fs, hr, hrun, hended, hW, hsame⟩ := X0.leave (v := some (.int (1 : Int32))) (fun h => by rw [Bd.returns] at h; cases h) (BodyLoose.notSynchronized Bd)
            refine ⟨_, _, k20 _ ?_, hrun, hended, _, _, rfl, ?_, ⟨_, rfl⟩, hW, hsame.mono (by decide) (by decide)⟩
            · show Steps p.tables e below (s₁.setTop (mkF m 35 #[.val (.int p0), .val (.int p1), .val (.int p2), .val (.int p3), .val (.int p4)] [(.int (1 : Int32))])) _
              exact retN X0 hx (t := .boolean) Bd.returns (by simp) (hb hby d9_35) hr
            ·
              show Qexpected _ p0 p1 p2 p3 p4 h0 n0 _ s₁.heap _
              rw [e0]
              exact ⟨by rw [hv], N0, rfl⟩
          ·
            have hv : own_exp p0 p1 p2 p3 p4 = (0 : Int32) := ((if_pos cd1).trans ((if_neg cd6).trans ((if_neg cd11).trans ((if_pos cd21).trans (if_neg cd27)))))
            have k22 : ∀ t, Steps p.tables e below (s₁.setTop (mkF m 35 #[.val (.int p0), .val (.int p1), .val (.int p2), .val (.int p3), .val (.int p4)] [(.int (0 : Int32))])) t → Steps p.tables e below (s₁.setTop (entryFrame m #[(.int p0), (.int p1), (.int p2), (.int p3), (.int p4)] 5)) t := fun t k => k18 t (by
              show Steps p.tables e below (s₁.setTop (mkF m 27 #[.val (.int p0), .val (.int p1), .val (.int p2), .val (.int p3), .val (.int p4)] [(.int p0), (.int p4)])) _
              refine XS.icmpYes X0.here hx rfl (pc0 := 27) (pc' := 34) rfl (hb hby d9_27) rfl (feq cd27).2 (by decide) (by decide) ?_
              show Steps p.tables e below (s₁.setTop (mkF m 34 #[.val (.int p0), .val (.int p1), .val (.int p2), .val (.int p3), .val (.int p4)] [])) _
              refine XS.iconst X0.here hx rfl (hb hby d9_34) ?_
              exact k)
            obtain ⟨fs, hr, hrun, hended, hW, hsame⟩ := X0.leave (v := some (.int (0 : Int32))) (fun h => by rw [Bd.returns] at h; cases h) (BodyLoose.notSynchronized Bd)
            refine ⟨_, _, k22 _ ?_, hrun, hended, _, _, rfl, ?_, ⟨_, rfl⟩, hW, hsame.mono (by decide) (by decide)⟩
            · show Steps p.tables e below (s₁.setTop (mkF m 35 #[.val (.int p0), .val (.int p1), .val (.int p2), .val (.int p3), .val (.int p4)] [(.int (0 : Int32))])) _
              exact retN X0 hx (t := .boolean) Bd.returns (by simp) (hb hby d9_35) hr
            ·
              show Qexpected _ p0 p1 p2 p3 p4 h0 n0 _ s₁.heap _
              rw [e0]
              exact ⟨by rw [hv], N0, rfl⟩
        ·
          have hv : own_exp p0 p1 p2 p3 p4 = (0 : Int32) := ((if_pos cd1).trans ((if_neg cd6).trans ((if_neg cd11).trans (if_neg cd21))))
          have k24 : ∀ t, Steps p.tables e below (s₁.setTop (mkF m 35 #[.val (.int p0), .val (.int p1), .val (.int p2), .val (.int p3), .val (.int p4)] [(.int (0 : Int32))])) t → Steps p.tables e below (s₁.setTop (entryFrame m #[(.int p0), (.int p1), (.int p2), (.int p3), (.int p4)] 5)) t := fun t k => k17 t (by
            show Steps p.tables e below (s₁.setTop (mkF m 21 #[.val (.int p0), .val (.int p1), .val (.int p2), .val (.int p3), .val (.int p4)] [(.int (2 : Int32)), (.int p1)])) _
            refine XS.icmpYes X0.here hx rfl (pc0 := 21) (pc' := 34) rfl (hb hby d9_21) rfl (flt cd21).2.2.2 (by decide) (by decide) ?_
            show Steps p.tables e below (s₁.setTop (mkF m 34 #[.val (.int p0), .val (.int p1), .val (.int p2), .val (.int p3), .val (.int p4)] [])) _
            refine XS.iconst X0.here hx rfl (hb hby d9_34) ?_
            exact k)
          obtain ⟨fs, hr, hrun, hended, hW, hsame⟩ := X0.leave (v := some (.int (0 : Int32))) (fun h => by rw [Bd.returns] at h; cases h) (BodyLoose.notSynchronized Bd)
          refine ⟨_, _, k24 _ ?_, hrun, hended, _, _, rfl, ?_, ⟨_, rfl⟩, hW, hsame.mono (by decide) (by decide)⟩
          · show Steps p.tables e below (s₁.setTop (mkF m 35 #[.val (.int p0), .val (.int p1), .val (.int p2), .val (.int p3), .val (.int p4)] [(.int (0 : Int32))])) _
            exact retN X0 hx (t := .boolean) Bd.returns (by simp) (hb hby d9_35) hr
          ·
            show Qexpected _ p0 p1 p2 p3 p4 h0 n0 _ s₁.heap _
            rw [e0]
            exact ⟨by rw [hv], N0, rfl⟩
  ·
    have k25 : ∀ t, Steps p.tables e below (s₁.setTop (mkF m 11 #[.val (.int p0), .val (.int p1), .val (.int p2), .val (.int p3), .val (.int p4)] [(.int (1 : Int32)), (.int p1)])) t → Steps p.tables e below (s₁.setTop (entryFrame m #[(.int p0), (.int p1), (.int p2), (.int p3), (.int p4)] 5)) t := fun t k => k1 t (by
      show Steps p.tables e below (s₁.setTop (mkF m 1 #[.val (.int p0), .val (.int p1), .val (.int p2), .val (.int p3), .val (.int p4)] [(.int p1)])) _
      refine XS.ifYes X0.here hx rfl (pc0 := 1) (pc' := 9) rfl (hb hby d9_1) rfl ((if0 _ _).trans (flt cd1).2.2.2) (by decide) (by decide) ?_
      show Steps p.tables e below (s₁.setTop (mkF m 9 #[.val (.int p0), .val (.int p1), .val (.int p2), .val (.int p3), .val (.int p4)] [])) _
      refine XS.iloadN X0.here hx rfl (hb hby d9_9) rfl ?_
      show Steps p.tables e below (s₁.setTop (mkF m 10 #[.val (.int p0), .val (.int p1), .val (.int p2), .val (.int p3), .val (.int p4)] [(.int p1)])) _
      refine XS.iconst X0.here hx rfl (hb hby d9_10) ?_
      exact k)
    by_cases cd11 : (1 : Int32) < p1
    ·
      have k26 : ∀ t, Steps p.tables e below (s₁.setTop (mkF m 16 #[.val (.int p0), .val (.int p1), .val (.int p2), .val (.int p3), .val (.int p4)] [(.int p0), (.int p3)])) t → Steps p.tables e below (s₁.setTop (entryFrame m #[(.int p0), (.int p1), (.int p2), (.int p3), (.int p4)] 5)) t := fun t k => k25 t (by
        show Steps p.tables e below (s₁.setTop (mkF m 11 #[.val (.int p0), .val (.int p1), .val (.int p2), .val (.int p3), .val (.int p4)] [(.int (1 : Int32)), (.int p1)])) _
        refine XS.icmpNo X0.here hx rfl (hb hby d9_11) rfl (tlt cd11).2.2.2 ?_
        show Steps p.tables e below (s₁.setTop (mkF m 14 #[.val (.int p0), .val (.int p1), .val (.int p2), .val (.int p3), .val (.int p4)] [])) _
        refine XS.iloadN X0.here hx rfl (hb hby d9_14) rfl ?_
        show Steps p.tables e below (s₁.setTop (mkF m 15 #[.val (.int p0), .val (.int p1), .val (.int p2), .val (.int p3), .val (.int p4)] [(.int p3)])) _
        refine XS.iloadN X0.here hx rfl (hb hby d9_15) rfl ?_
        exact k)
      by_cases cd16 : p3 = p0
      ·
        have hv : own_exp p0 p1 p2 p3 p4 = (1 : Int32) := ((if_neg cd1).trans ((if_pos cd11).trans (if_pos cd16)))
        have k28 : ∀ t, Steps p.tables e below (s₁.setTop (mkF m 35 #[.val (.int p0), .val (.int p1), .val (.int p2), .val (.int p3), .val (.int p4)] [(.int (1 : Int32))])) t → Steps p.tables e below (s₁.setTop (entryFrame m #[(.int p0), (.int p1), (.int p2), (.int p3), (.int p4)] 5)) t := fun t k => k26 t (by
          show Steps p.tables e below (s₁.setTop (mkF m 16 #[.val (.int p0), .val (.int p1), .val (.int p2), .val (.int p3), .val (.int p4)] [(.int p0), (.int p3)])) _
          refine XS.icmpYes X0.here hx rfl (pc0 := 16) (pc' := 30) rfl (hb hby d9_16) rfl (teq cd16).1 (by decide) (by decide) ?_
          show Steps p.tables e below (s₁.setTop (mkF m 30 #[.val (.int p0), .val (.int p1), .val (.int p2), .val (.int p3), .val (.int p4)] [])) _
          refine XS.iconst X0.here hx rfl (hb hby d9_30) ?_
          show Steps p.tables e below (s₁.setTop (mkF m 31 #[.val (.int p0), .val (.int p1), .val (.int p2), .val (.int p3), .val (.int p4)] [(.int (1 : Int32))])) _
          refine XS.goto X0.here hx rfl (pc0 := 31) (pc' := 35) rfl (hb hby d9_31) (by decide) (by decide) ?_
          exact k)
        obtain ⟨fs, hr, hrun, hended, hW, hsame⟩ := X0.leave (v := some (.int (1 : Int32))) (fun h => by rw [Bd.returns] at h; cases h) (BodyLoose.notSynchronized Bd)
        refine ⟨_, _, k28 _ ?_, hrun, hended, _, _, rfl, ?_, ⟨_, rfl⟩, hW, hsame.mono (by decide) (by decide)⟩
        · show Steps p.tables e below (s₁.setTop (mkF m 35 #[.val (.int p0), .val (.int p1), .val (.int p2), .val (.int p3), .val (.int p4)] [(.int (1 : Int32))])) _
          exact retN X0 hx (t := .boolean) Bd.returns (by simp) (hb hby d9_35) hr
        ·
          show Qexpected _ p0 p1 p2 p3 p4 h0 n0 _ s₁.heap _
          rw [e0]
          exact ⟨by rw [hv], N0, rfl⟩
      ·
        have k29 : ∀ t, Steps p.tables e below (s₁.setTop (mkF m 21 #[.val (.int p0), .val (.int p1), .val (.int p2), .val (.int p3), .val (.int p4)] [(.int (2 : Int32)), (.int p1)])) t → Steps p.tables e below (s₁.setTop (entryFrame m #[(.int p0), (.int p1), (.int p2), (.int p3), (.int p4)] 5)) t := fun t k => k26 t (by
          show Steps p.tables e below (s₁.setTop (mkF m 16 #[.val (.int p0), .val (.int p1), .val (.int p2), .val (.int p3), .val (.int p4)] [(.int p0), (.int p3)])) _
          refine XS.icmpNo X0.here hx rfl (hb hby d9_16) rfl (feq cd16).1 ?_
          show Steps p.tables e below (s₁.setTop (mkF m 19 #[.val (.int p0), .val (.int p1), .val (.int p2), .val (.int p3), .val (.int p4)] [])) _
          refine XS.iloadN X0.here hx rfl (hb hby d9_19) rfl ?_
          show Steps p.tables e below (s₁.setTop (mkF m 20 #[.val (.int p0), .val (.int p1), .val (.int p2), .val (.int p3), .val (.int p4)] [(.int p1)])) _
          refine XS.iconst X0.here hx rfl (hb hby d9_20) ?_
          exact k)
        by_cases cd21 : (2 : Int32) < p1
        ·
          have k30 : ∀ t, Steps p.tables e below (s₁.setTop (mkF m 27 #[.val (.int p0), .val (.int p1), .val (.int p2), .val (.int p3), .val (.int p4)] [(.int p0), (.int p4)])) t → Steps p.tables e below (s₁.setTop (entryFrame m #[(.int p0), (.int p1), (.int p2), (.int p3), (.int p4)] 5)) t := fun t k => k29 t (by
            show Steps p.tables e below (s₁.setTop (mkF m 21 #[.val (.int p0), .val (.int p1), .val (.int p2), .val (.int p3), .val (.int p4)] [(.int (2 : Int32)), (.int p1)])) _
            refine XS.icmpNo X0.here hx rfl (hb hby d9_21) rfl (tlt cd21).2.2.2 ?_
            show Steps p.tables e below (s₁.setTop (mkF m 24 #[.val (.int p0), .val (.int p1), .val (.int p2), .val (.int p3), .val (.int p4)] [])) _
            refine XS.iload X0.here hx rfl (hb hby d9_24) rfl ?_
            show Steps p.tables e below (s₁.setTop (mkF m 26 #[.val (.int p0), .val (.int p1), .val (.int p2), .val (.int p3), .val (.int p4)] [(.int p4)])) _
            refine XS.iloadN X0.here hx rfl (hb hby d9_26) rfl ?_
            exact k)
          by_cases cd27 : p4 = p0
          ·
            have hv : own_exp p0 p1 p2 p3 p4 = (1 : Int32) := ((if_neg cd1).trans ((if_pos cd11).trans ((if_neg cd16).trans ((if_pos cd21).trans (if_pos cd27)))))
            have k32 : ∀ t, Steps p.tables e below (s₁.setTop (mkF m 35 #[.val (.int p0), .val (.int p1), .val (.int p2), .val (.int p3), .val (.int p4)] [(.int (1 : Int32))])) t → Steps p.tables e below (s₁.setTop (entryFrame m #[(.int p0), (.int p1), (.int p2), (.int p3), (.int p4)] 5)) t := fun t k => k30 t (by
              show Steps p.tables e below (s₁.setTop (mkF m 27 #[.val (.int p0), .val (.int p1), .val (.int p2), .val (.int p3), .val (.int p4)] [(.int p0), (.int p4)])) _
              refine XS.icmpNo X0.here hx rfl (hb hby d9_27) rfl (teq cd27).2 ?_
              show Steps p.tables e below (s₁.setTop (mkF m 30 #[.val (.int p0), .val (.int p1), .val (.int p2), .val (.int p3), .val (.int p4)] [])) _
              refine XS.iconst X0.here hx rfl (hb hby d9_30) ?_
              show Steps p.tables e below (s₁.setTop (mkF m 31 #[.val (.int p0), .val (.int p1), .val (.int p2), .val (.int p3), .val (.int p4)] [(.int (1 : Int32))])) _
              refine XS.goto X0.here hx rfl (pc0 := 31) (pc' := 35) rfl (hb hby d9_31) (by decide) (by decide) ?_
              exact k)
            obtain ⟨fs, hr, hrun, hended, hW, hsame⟩ := X0.leave (v := some (.int (1 : Int32))) (fun h => by rw [Bd.returns] at h; cases h) (BodyLoose.notSynchronized Bd)
            refine ⟨_, _, k32 _ ?_, hrun, hended, _, _, rfl, ?_, ⟨_, rfl⟩, hW, hsame.mono (by decide) (by decide)⟩
            · show Steps p.tables e below (s₁.setTop (mkF m 35 #[.val (.int p0), .val (.int p1), .val (.int p2), .val (.int p3), .val (.int p4)] [(.int (1 : Int32))])) _
              exact retN X0 hx (t := .boolean) Bd.returns (by simp) (hb hby d9_35) hr
            ·
              show Qexpected _ p0 p1 p2 p3 p4 h0 n0 _ s₁.heap _
              rw [e0]
              exact ⟨by rw [hv], N0, rfl⟩
          ·
            have hv : own_exp p0 p1 p2 p3 p4 = (0 : Int32) := ((if_neg cd1).trans ((if_pos cd11).trans ((if_neg cd16).trans ((if_pos cd21).trans (if_neg cd27)))))
            have k34 : ∀ t, Steps p.tables e below (s₁.setTop (mkF m 35 #[.val (.int p0), .val (.int p1), .val (.int p2), .val (.int p3), .val (.int p4)] [(.int (0 : Int32))])) t → Steps p.tables e below (s₁.setTop (entryFrame m #[(.int p0), (.int p1), (.int p2), (.int p3), (.int p4)] 5)) t := fun t k => k30 t (by
              show Steps p.tables e below (s₁.setTop (mkF m 27 #[.val (.int p0), .val (.int p1), .val (.int p2), .val (.int p3), .val (.int p4)] [(.int p0), (.int p4)])) _
              refine XS.icmpYes X0.here hx rfl (pc0 := 27) (pc' := 34) rfl (hb hby d9_27) rfl (feq cd27).2 (by decide) (by decide) ?_
              show Steps p.tables e below (s₁.setTop (mkF m 34 #[.val (.int p0), .val (.int p1), .val (.int p2), .val (.int p3), .val (.int p4)] [])) _
              refine XS.iconst X0.here hx rfl (hb hby d9_34) ?_
              exact k)
            obtain ⟨fs, hr, hrun, hended, hW, hsame⟩ := X0.leave (v := some (.int (0 : Int32))) (fun h => by rw [Bd.returns] at h; cases h) (BodyLoose.notSynchronized Bd)
            refine ⟨_, _, k34 _ ?_, hrun, hended, _, _, rfl, ?_, ⟨_, rfl⟩, hW, hsame.mono (by decide) (by decide)⟩
            · show Steps p.tables e below (s₁.setTop (mkF m 35 #[.val (.int p0), .val (.int p1), .val (.int p2), .val (.int p3), .val (.int p4)] [(.int (0 : Int32))])) _
              exact retN X0 hx (t := .boolean) Bd.returns (by simp) (hb hby d9_35) hr
            ·
              show Qexpected _ p0 p1 p2 p3 p4 h0 n0 _ s₁.heap _
              rw [e0]
              exact ⟨by rw [hv], N0, rfl⟩
        ·
          have hv : own_exp p0 p1 p2 p3 p4 = (0 : Int32) := ((if_neg cd1).trans ((if_pos cd11).trans ((if_neg cd16).trans (if_neg cd21))))
          have k36 : ∀ t, Steps p.tables e below (s₁.setTop (mkF m 35 #[.val (.int p0), .val (.int p1), .val (.int p2), .val (.int p3), .val (.int p4)] [(.int (0 : Int32))])) t → Steps p.tables e below (s₁.setTop (entryFrame m #[(.int p0), (.int p1), (.int p2), (.int p3), (.int p4)] 5)) t := fun t k => k29 t (by
            show Steps p.tables e below (s₁.setTop (mkF m 21 #[.val (.int p0), .val (.int p1), .val (.int p2), .val (.int p3), .val (.int p4)] [(.int (2 : Int32)), (.int p1)])) _
            refine XS.icmpYes X0.here hx rfl (pc0 := 21) (pc' := 34) rfl (hb hby d9_21) rfl (flt cd21).2.2.2 (by decide) (by decide) ?_
            show Steps p.tables e below (s₁.setTop (mkF m 34 #[.val (.int p0), .val (.int p1), .val (.int p2), .val (.int p3), .val (.int p4)] [])) _
            refine XS.iconst X0.here hx rfl (hb hby d9_34) ?_
            exact k)
          obtain ⟨fs, hr, hrun, hended, hW, hsame⟩ := X0.leave (v := some (.int (0 : Int32))) (fun h => by rw [Bd.returns] at h; cases h) (BodyLoose.notSynchronized Bd)
          refine ⟨_, _, k36 _ ?_, hrun, hended, _, _, rfl, ?_, ⟨_, rfl⟩, hW, hsame.mono (by decide) (by decide)⟩
          · show Steps p.tables e below (s₁.setTop (mkF m 35 #[.val (.int p0), .val (.int p1), .val (.int p2), .val (.int p3), .val (.int p4)] [(.int (0 : Int32))])) _
            exact retN X0 hx (t := .boolean) Bd.returns (by simp) (hb hby d9_35) hr
          ·
            show Qexpected _ p0 p1 p2 p3 p4 h0 n0 _ s₁.heap _
            rw [e0]
            exact ⟨by rw [hv], N0, rfl⟩
    ·
      have k37 : ∀ t, Steps p.tables e below (s₁.setTop (mkF m 21 #[.val (.int p0), .val (.int p1), .val (.int p2), .val (.int p3), .val (.int p4)] [(.int (2 : Int32)), (.int p1)])) t → Steps p.tables e below (s₁.setTop (entryFrame m #[(.int p0), (.int p1), (.int p2), (.int p3), (.int p4)] 5)) t := fun t k => k25 t (by
        show Steps p.tables e below (s₁.setTop (mkF m 11 #[.val (.int p0), .val (.int p1), .val (.int p2), .val (.int p3), .val (.int p4)] [(.int (1 : Int32)), (.int p1)])) _
        refine XS.icmpYes X0.here hx rfl (pc0 := 11) (pc' := 19) rfl (hb hby d9_11) rfl (flt cd11).2.2.2 (by decide) (by decide) ?_
        show Steps p.tables e below (s₁.setTop (mkF m 19 #[.val (.int p0), .val (.int p1), .val (.int p2), .val (.int p3), .val (.int p4)] [])) _
        refine XS.iloadN X0.here hx rfl (hb hby d9_19) rfl ?_
        show Steps p.tables e below (s₁.setTop (mkF m 20 #[.val (.int p0), .val (.int p1), .val (.int p2), .val (.int p3), .val (.int p4)] [(.int p1)])) _
        refine XS.iconst X0.here hx rfl (hb hby d9_20) ?_
        exact k)
      by_cases cd21 : (2 : Int32) < p1
      ·
        have k38 : ∀ t, Steps p.tables e below (s₁.setTop (mkF m 27 #[.val (.int p0), .val (.int p1), .val (.int p2), .val (.int p3), .val (.int p4)] [(.int p0), (.int p4)])) t → Steps p.tables e below (s₁.setTop (entryFrame m #[(.int p0), (.int p1), (.int p2), (.int p3), (.int p4)] 5)) t := fun t k => k37 t (by
          show Steps p.tables e below (s₁.setTop (mkF m 21 #[.val (.int p0), .val (.int p1), .val (.int p2), .val (.int p3), .val (.int p4)] [(.int (2 : Int32)), (.int p1)])) _
          refine XS.icmpNo X0.here hx rfl (hb hby d9_21) rfl (tlt cd21).2.2.2 ?_
          show Steps p.tables e below (s₁.setTop (mkF m 24 #[.val (.int p0), .val (.int p1), .val (.int p2), .val (.int p3), .val (.int p4)] [])) _
          refine XS.iload X0.here hx rfl (hb hby d9_24) rfl ?_
          show Steps p.tables e below (s₁.setTop (mkF m 26 #[.val (.int p0), .val (.int p1), .val (.int p2), .val (.int p3), .val (.int p4)] [(.int p4)])) _
          refine XS.iloadN X0.here hx rfl (hb hby d9_26) rfl ?_
          exact k)
        by_cases cd27 : p4 = p0
        ·
          have hv : own_exp p0 p1 p2 p3 p4 = (1 : Int32) := ((if_neg cd1).trans ((if_neg cd11).trans ((if_pos cd21).trans (if_pos cd27))))
          have k40 : ∀ t, Steps p.tables e below (s₁.setTop (mkF m 35 #[.val (.int p0), .val (.int p1), .val (.int p2), .val (.int p3), .val (.int p4)] [(.int (1 : Int32))])) t → Steps p.tables e below (s₁.setTop (entryFrame m #[(.int p0), (.int p1), (.int p2), (.int p3), (.int p4)] 5)) t := fun t k => k38 t (by
            show Steps p.tables e below (s₁.setTop (mkF m 27 #[.val (.int p0), .val (.int p1), .val (.int p2), .val (.int p3), .val (.int p4)] [(.int p0), (.int p4)])) _
            refine XS.icmpNo X0.here hx rfl (hb hby d9_27) rfl (teq cd27).2 ?_
            show Steps p.tables e below (s₁.setTop (mkF m 30 #[.val (.int p0), .val (.int p1), .val (.int p2), .val (.int p3), .val (.int p4)] [])) _
            refine XS.iconst X0.here hx rfl (hb hby d9_30) ?_
            show Steps p.tables e below (s₁.setTop (mkF m 31 #[.val (.int p0), .val (.int p1), .val (.int p2), .val (.int p3), .val (.int p4)] [(.int (1 : Int32))])) _
            refine XS.goto X0.here hx rfl (pc0 := 31) (pc' := 35) rfl (hb hby d9_31) (by decide) (by decide) ?_
            exact k)
          obtain ⟨fs, hr, hrun, hended, hW, hsame⟩ := X0.leave (v := some (.int (1 : Int32))) (fun h => by rw [Bd.returns] at h; cases h) (BodyLoose.notSynchronized Bd)
          refine ⟨_, _, k40 _ ?_, hrun, hended, _, _, rfl, ?_, ⟨_, rfl⟩, hW, hsame.mono (by decide) (by decide)⟩
          · show Steps p.tables e below (s₁.setTop (mkF m 35 #[.val (.int p0), .val (.int p1), .val (.int p2), .val (.int p3), .val (.int p4)] [(.int (1 : Int32))])) _
            exact retN X0 hx (t := .boolean) Bd.returns (by simp) (hb hby d9_35) hr
          ·
            show Qexpected _ p0 p1 p2 p3 p4 h0 n0 _ s₁.heap _
            rw [e0]
            exact ⟨by rw [hv], N0, rfl⟩
        ·
          have hv : own_exp p0 p1 p2 p3 p4 = (0 : Int32) := ((if_neg cd1).trans ((if_neg cd11).trans ((if_pos cd21).trans (if_neg cd27))))
          have k42 : ∀ t, Steps p.tables e below (s₁.setTop (mkF m 35 #[.val (.int p0), .val (.int p1), .val (.int p2), .val (.int p3), .val (.int p4)] [(.int (0 : Int32))])) t → Steps p.tables e below (s₁.setTop (entryFrame m #[(.int p0), (.int p1), (.int p2), (.int p3), (.int p4)] 5)) t := fun t k => k38 t (by
            show Steps p.tables e below (s₁.setTop (mkF m 27 #[.val (.int p0), .val (.int p1), .val (.int p2), .val (.int p3), .val (.int p4)] [(.int p0), (.int p4)])) _
            refine XS.icmpYes X0.here hx rfl (pc0 := 27) (pc' := 34) rfl (hb hby d9_27) rfl (feq cd27).2 (by decide) (by decide) ?_
            show Steps p.tables e below (s₁.setTop (mkF m 34 #[.val (.int p0), .val (.int p1), .val (.int p2), .val (.int p3), .val (.int p4)] [])) _
            refine XS.iconst X0.here hx rfl (hb hby d9_34) ?_
            exact k)
          obtain ⟨fs, hr, hrun, hended, hW, hsame⟩ := X0.leave (v := some (.int (0 : Int32))) (fun h => by rw [Bd.returns] at h; cases h) (BodyLoose.notSynchronized Bd)
          refine ⟨_, _, k42 _ ?_, hrun, hended, _, _, rfl, ?_, ⟨_, rfl⟩, hW, hsame.mono (by decide) (by decide)⟩
          · show Steps p.tables e below (s₁.setTop (mkF m 35 #[.val (.int p0), .val (.int p1), .val (.int p2), .val (.int p3), .val (.int p4)] [(.int (0 : Int32))])) _
            exact retN X0 hx (t := .boolean) Bd.returns (by simp) (hb hby d9_35) hr
          ·
            show Qexpected _ p0 p1 p2 p3 p4 h0 n0 _ s₁.heap _
            rw [e0]
            exact ⟨by rw [hv], N0, rfl⟩
      ·
        have hv : own_exp p0 p1 p2 p3 p4 = (0 : Int32) := ((if_neg cd1).trans ((if_neg cd11).trans (if_neg cd21)))
        have k44 : ∀ t, Steps p.tables e below (s₁.setTop (mkF m 35 #[.val (.int p0), .val (.int p1), .val (.int p2), .val (.int p3), .val (.int p4)] [(.int (0 : Int32))])) t → Steps p.tables e below (s₁.setTop (entryFrame m #[(.int p0), (.int p1), (.int p2), (.int p3), (.int p4)] 5)) t := fun t k => k37 t (by
          show Steps p.tables e below (s₁.setTop (mkF m 21 #[.val (.int p0), .val (.int p1), .val (.int p2), .val (.int p3), .val (.int p4)] [(.int (2 : Int32)), (.int p1)])) _
          refine XS.icmpYes X0.here hx rfl (pc0 := 21) (pc' := 34) rfl (hb hby d9_21) rfl (flt cd21).2.2.2 (by decide) (by decide) ?_
          show Steps p.tables e below (s₁.setTop (mkF m 34 #[.val (.int p0), .val (.int p1), .val (.int p2), .val (.int p3), .val (.int p4)] [])) _
          refine XS.iconst X0.here hx rfl (hb hby d9_34) ?_
          exact k)
        obtain ⟨fs, hr, hrun, hended, hW, hsame⟩ := X0.leave (v := some (.int (0 : Int32))) (fun h => by rw [Bd.returns] at h; cases h) (BodyLoose.notSynchronized Bd)
        refine ⟨_, _, k44 _ ?_, hrun, hended, _, _, rfl, ?_, ⟨_, rfl⟩, hW, hsame.mono (by decide) (by decide)⟩
        · show Steps p.tables e below (s₁.setTop (mkF m 35 #[.val (.int p0), .val (.int p1), .val (.int p2), .val (.int p3), .val (.int p4)] [(.int (0 : Int32))])) _
          exact retN X0 hx (t := .boolean) Bd.returns (by simp) (hb hby d9_35) hr
        ·
          show Qexpected _ p0 p1 p2 p3 p4 h0 n0 _ s₁.heap _
          rw [e0]
          exact ⟨by rw [hv], N0, rfl⟩
def own_idx (p1 p2 p4 p5 p6 : Int32) : Int32 := if (0 : Int32) < p2 then if p1 = p4 then (0 : Int32) else if (1 : Int32) < p2 then if p1 = p5 then (1 : Int32) else if (2 : Int32) < p2 then if p1 = p6 then (2 : Int32) else (-1 : Int32) else (-1 : Int32) else if (2 : Int32) < p2 then if p1 = p6 then (2 : Int32) else (-1 : Int32) else (-1 : Int32)
  else if (1 : Int32) < p2 then if p1 = p5 then (1 : Int32) else if (2 : Int32) < p2 then if p1 = p6 then (2 : Int32) else (-1 : Int32) else (-1 : Int32) else if (2 : Int32) < p2 then if p1 = p6 then (2 : Int32) else (-1 : Int32) else (-1 : Int32)
def own_flag (p7 ix : Int32) : Int32 := if ((p7 >>> (ix &&& 31)) &&& (1 : Int32)) = (0 : Int32) then (0 : Int32) else (1 : Int32)
def own_place (p0 p1 p2 p3 p4 p5 p6 p7 : Int32) : Int32 := if p0 < p2 then if own_idx p1 p2 p4 p5 p6 < (0 : Int32) then (0 : Int32) else if own_flag p7 (own_idx p1 p2 p4 p5 p6) = (if p0 < p3 then (1 : Int32) else (0 : Int32)) then (1 : Int32) else (0 : Int32) else (1 : Int32)
theorem d7_0 : decode method_4_code 0 = .ok (.iload_n 0, 1) := by decide +kernel
theorem d7_1 : decode method_4_code 1 = .ok (.iload_n 2, 1) := by decide +kernel
theorem d7_2 : decode method_4_code 2 = .ok (.if_icmp .lt 5, 3) := by decide +kernel
theorem d7_5 : decode method_4_code 5 = .ok (.iconst 1, 1) := by decide +kernel
theorem d7_6 : decode method_4_code 6 = .ok (.ireturn, 1) := by decide +kernel
theorem d7_7 : decode method_4_code 7 = .ok (.iconst (-1), 1) := by decide +kernel
theorem d7_8 : decode method_4_code 8 = .ok (.istore 8, 2) := by decide +kernel
theorem d7_10 : decode method_4_code 10 = .ok (.iload_n 2, 1) := by decide +kernel
theorem d7_11 : decode method_4_code 11 = .ok (.ifCond .le 15, 3) := by decide +kernel
theorem d7_14 : decode method_4_code 14 = .ok (.iload_n 1, 1) := by decide +kernel
theorem d7_15 : decode method_4_code 15 = .ok (.iload 4, 2) := by decide +kernel
theorem d7_17 : decode method_4_code 17 = .ok (.if_icmp .ne 9, 3) := by decide +kernel
theorem d7_20 : decode method_4_code 20 = .ok (.iconst 0, 1) := by decide +kernel
theorem d7_21 : decode method_4_code 21 = .ok (.istore 8, 2) := by decide +kernel
theorem d7_23 : decode method_4_code 23 = .ok (.goto 34, 3) := by decide +kernel
theorem d7_26 : decode method_4_code 26 = .ok (.iload_n 2, 1) := by decide +kernel
theorem d7_27 : decode method_4_code 27 = .ok (.iconst 1, 1) := by decide +kernel
theorem d7_28 : decode method_4_code 28 = .ok (.if_icmp .le 15, 3) := by decide +kernel
theorem d7_31 : decode method_4_code 31 = .ok (.iload_n 1, 1) := by decide +kernel
theorem d7_32 : decode method_4_code 32 = .ok (.iload 5, 2) := by decide +kernel
theorem d7_34 : decode method_4_code 34 = .ok (.if_icmp .ne 9, 3) := by decide +kernel
theorem d7_37 : decode method_4_code 37 = .ok (.iconst 1, 1) := by decide +kernel
theorem d7_38 : decode method_4_code 38 = .ok (.istore 8, 2) := by decide +kernel
theorem d7_40 : decode method_4_code 40 = .ok (.goto 17, 3) := by decide +kernel
theorem d7_43 : decode method_4_code 43 = .ok (.iload_n 2, 1) := by decide +kernel
theorem d7_44 : decode method_4_code 44 = .ok (.iconst 2, 1) := by decide +kernel
theorem d7_45 : decode method_4_code 45 = .ok (.if_icmp .le 12, 3) := by decide +kernel
theorem d7_48 : decode method_4_code 48 = .ok (.iload_n 1, 1) := by decide +kernel
theorem d7_49 : decode method_4_code 49 = .ok (.iload 6, 2) := by decide +kernel
theorem d7_51 : decode method_4_code 51 = .ok (.if_icmp .ne 6, 3) := by decide +kernel
theorem d7_54 : decode method_4_code 54 = .ok (.iconst 2, 1) := by decide +kernel
theorem d7_55 : decode method_4_code 55 = .ok (.istore 8, 2) := by decide +kernel
theorem d7_57 : decode method_4_code 57 = .ok (.iload 8, 2) := by decide +kernel
theorem d7_59 : decode method_4_code 59 = .ok (.ifCond .ge 5, 3) := by decide +kernel
theorem d7_62 : decode method_4_code 62 = .ok (.iconst 0, 1) := by decide +kernel
theorem d7_63 : decode method_4_code 63 = .ok (.ireturn, 1) := by decide +kernel
theorem d7_64 : decode method_4_code 64 = .ok (.iload 7, 2) := by decide +kernel
theorem d7_66 : decode method_4_code 66 = .ok (.iload 8, 2) := by decide +kernel
theorem d7_68 : decode method_4_code 68 = .ok (.ishr, 1) := by decide +kernel
theorem d7_69 : decode method_4_code 69 = .ok (.iconst 1, 1) := by decide +kernel
theorem d7_70 : decode method_4_code 70 = .ok (.iand, 1) := by decide +kernel
theorem d7_71 : decode method_4_code 71 = .ok (.ifCond .eq 7, 3) := by decide +kernel
theorem d7_74 : decode method_4_code 74 = .ok (.iconst 1, 1) := by decide +kernel
theorem d7_75 : decode method_4_code 75 = .ok (.goto 4, 3) := by decide +kernel
theorem d7_78 : decode method_4_code 78 = .ok (.iconst 0, 1) := by decide +kernel
theorem d7_79 : decode method_4_code 79 = .ok (.istore 9, 2) := by decide +kernel
theorem d7_81 : decode method_4_code 81 = .ok (.iload 9, 2) := by decide +kernel
theorem d7_83 : decode method_4_code 83 = .ok (.iload_n 0, 1) := by decide +kernel
theorem d7_84 : decode method_4_code 84 = .ok (.iload_n 3, 1) := by decide +kernel
theorem d7_85 : decode method_4_code 85 = .ok (.if_icmp .ge 7, 3) := by decide +kernel
theorem d7_88 : decode method_4_code 88 = .ok (.iconst 1, 1) := by decide +kernel
theorem d7_89 : decode method_4_code 89 = .ok (.goto 4, 3) := by decide +kernel
theorem d7_92 : decode method_4_code 92 = .ok (.iconst 0, 1) := by decide +kernel
theorem d7_93 : decode method_4_code 93 = .ok (.if_icmp .ne 7, 3) := by decide +kernel
theorem d7_96 : decode method_4_code 96 = .ok (.iconst 1, 1) := by decide +kernel
theorem d7_97 : decode method_4_code 97 = .ok (.goto 4, 3) := by decide +kernel
theorem d7_100 : decode method_4_code 100 = .ok (.iconst 0, 1) := by decide +kernel
theorem d7_101 : decode method_4_code 101 = .ok (.ireturn, 1) := by decide +kernel
theorem pn_7 : plainName "com/example/ariadne/ariadne/algo/SplitSearchMarkPinLaw" = true := by first | (simp [plainName, overriddenIn]; done) | decide +kernel
theorem ef_placeOk (m : MethodId) (x0 : Int32) (x1 : Int32) (x2 : Int32) (x3 : Int32) (x4 : Int32) (x5 : Int32) (x6 : Int32) (x7 : Int32) : entryFrame m #[(.int x0), (.int x1), (.int x2), (.int x3), (.int x4), (.int x5), (.int x6), (.int x7)] 10 = mkF m 0 #[.val (.int x0), .val (.int x1), .val (.int x2), .val (.int x3), .val (.int x4), .val (.int x5), .val (.int x6), .val (.int x7), .unset, .unset] [] := by first | (simp [entryFrame, mkF, argsToLocals, Value.category]; done) | rfl
def QplaceOk (Z : State) (p0 : Int32) (p1 : Int32) (p2 : Int32) (p3 : Int32) (p4 : Int32) (p5 : Int32) (p6 : Int32) (p7 : Int32) (h0 : Heap) (n0 : Nat) (v : Option Value) (h : Heap) (L : List Loc) : Prop := v = some (.int (own_place p0 p1 p2 p3 p4 p5 p6 p7)) ∧ Fr n0 L ∧ h = h0
set_option maxRecDepth 65536 in
set_option maxHeartbeats 40000000 in
theorem rm_placeOk (l : Launch) (Z : State) (a0 : Array Value) (hw : ∀ d ∈ tables_1, d.before a0 Z = true) (ws : List Jvm.Cond) (p0 : Int32) (p1 : Int32) (p2 : Int32) (p3 : Int32) (p4 : Int32) (p5 : Int32) (p6 : Int32) (p7 : Int32) (h0 : Heap) (n0 : Nat) (Z0 : n0 ≤ h0.size) :
    MetFree l (⟨"com/example/ariadne/ariadne/algo/SplitSearchMarkPinLaw", "placeOk", "(IIIIIIII)Z"⟩ : MethodName) (head1 (Jvm.Cond.code (⟨"com/example/ariadne/ariadne/algo/SplitSearchMarkPinLaw", "placeOk", "(IIIIIIII)Z"⟩ : MethodName) method_4_code 10 (some .boolean) :: ws) ({ frames := 0, cells := 0, slots := 0, locals := 0 } : Room)) (fun a U => a = #[(.int p0), (.int p1), (.int p2), (.int p3), (.int p4), (.int p5), (.int p6), (.int p7)] ∧ Z.Warmed39 U.vm ∧ U.heap = h0) (fun _ _ _ _ _ => True) (fun _ U o U' => ∃ v L, o = .returned v ∧ QplaceOk Z p0 p1 p2 p3 p4 p5 p6 p7 h0 n0 v U'.heap L ∧ FrameEnd U o U' L ({ frames := 0, cells := 0, slots := 0, locals := 0 } : Room).cells ({ frames := 0, cells := 0, slots := 0, locals := 0 } : Room).slots) := by
  refine MetFree.of_bodySF (plainFor_of_name pn_7) hisR ?_
  intro p e s m args below meth c s₁ Bd hml0 hP hK
  obtain ⟨rfl, hZ, hh⟩ := hP
  have hx := Bd.exec
  have hby := Bd.bytes
  have hml : c.maxLocals = 10 := hml0
  have hown : s.vm.findClass "com/example/ariadne/ariadne/algo/SplitSearchMarkPinLaw" = some m.cls := findClass_of_methodNamed Bd.named
  have hnm := (name_of_methodNamed Bd.named Bd.method).1
  have X0 : Stand p l e ({ frames := 0, cells := 0, slots := 0, locals := 0 } : Room) s m #[(.int p0), (.int p1), (.int p2), (.int p3), (.int p4), (.int p5), (.int p6), (.int p7)] below meth c s₁ [] 0 0 := Stand.of_body Bd
  have e0 : s₁.heap = h0 := by rw [← hh, Bd.state]; rfl
  have N0 := Fr.nil n0
  have k0 : ∀ t, Steps p.tables e below (s₁.setTop (mkF m 0 #[.val (.int p0), .val (.int p1), .val (.int p2), .val (.int p3), .val (.int p4), .val (.int p5), .val (.int p6), .val (.int p7), .unset, .unset] [])) t → Steps p.tables e below (s₁.setTop (entryFrame m #[(.int p0), (.int p1), (.int p2), (.int p3), (.int p4), (.int p5), (.int p6), (.int p7)] 10)) t := fun t k => castTop (ef_placeOk m p0 p1 p2 p3 p4 p5 p6 p7) k
  have k1 : ∀ t, Steps p.tables e below (s₁.setTop (mkF m 2 #[.val (.int p0), .val (.int p1), .val (.int p2), .val (.int p3), .val (.int p4), .val (.int p5), .val (.int p6), .val (.int p7), .unset, .unset] [(.int p2), (.int p0)])) t → Steps p.tables e below (s₁.setTop (entryFrame m #[(.int p0), (.int p1), (.int p2), (.int p3), (.int p4), (.int p5), (.int p6), (.int p7)] 10)) t := fun t k => k0 t (by
    show Steps p.tables e below (s₁.setTop (mkF m 0 #[.val (.int p0), .val (.int p1), .val (.int p2), .val (.int p3), .val (.int p4), .val (.int p5), .val (.int p6), .val (.int p7), .unset, .unset] [])) _
    refine XS.iloadN X0.here hx rfl (hb hby d7_0) rfl ?_
    show Steps p.tables e below (s₁.setTop (mkF m 1 #[.val (.int p0), .val (.int p1), .val (.int p2), .val (.int p3), .val (.int p4), .val (.int p5), .val (.int p6), .val (.int p7), .unset, .unset] [(.int p0)])) _
    refine XS.iloadN X0.here hx rfl (hb hby d7_1) rfl ?_
    exact k)
  by_cases cd2 : p0 < p2
  ·
    have k2 : ∀ t, Steps p.tables e below (s₁.setTop (mkF m 10 #[.val (.int p0), .val (.int p1), .val (.int p2), .val (.int p3), .val (.int p4), .val (.int p5), .val (.int p6), .val (.int p7), .val (.int (-1 : Int32)), .unset] [])) t → Steps p.tables e below (s₁.setTop (entryFrame m #[(.int p0), (.int p1), (.int p2), (.int p3), (.int p4), (.int p5), (.int p6), (.int p7)] 10)) t := fun t k => k1 t (by
      show Steps p.tables e below (s₁.setTop (mkF m 2 #[.val (.int p0), .val (.int p1), .val (.int p2), .val (.int p3), .val (.int p4), .val (.int p5), .val (.int p6), .val (.int p7), .unset, .unset] [(.int p2), (.int p0)])) _
      refine XS.icmpYes X0.here hx rfl (pc0 := 2) (pc' := 7) rfl (hb hby d7_2) rfl (tlt cd2).1 (by decide) (by decide) ?_
      show Steps p.tables e below (s₁.setTop (mkF m 7 #[.val (.int p0), .val (.int p1), .val (.int p2), .val (.int p3), .val (.int p4), .val (.int p5), .val (.int p6), .val (.int p7), .unset, .unset] [])) _
      refine XS.iconst X0.here hx rfl (hb hby d7_7) ?_
      show Steps p.tables e below (s₁.setTop (mkF m 8 #[.val (.int p0), .val (.int p1), .val (.int p2), .val (.int p3), .val (.int p4), .val (.int p5), .val (.int p6), .val (.int p7), .unset, .unset] [(.int (-1 : Int32))])) _
      refine XS.istore X0.here hx rfl (hb hby d7_8) rfl (l' := #[.val (.int p0), .val (.int p1), .val (.int p2), .val (.int p3), .val (.int p4), .val (.int p5), .val (.int p6), .val (.int p7), .val (.int (-1 : Int32)), .unset]) rfl ?_
      exact k)
    obtain ⟨ix, hd_ix⟩ : ∃ z : Int32, z = (if (0 : Int32) < p2 then (if p1 = p4 then (0 : Int32) else (if (1 : Int32) < p2 then (if p1 = p5 then (1 : Int32) else (if (2 : Int32) < p2 then (if p1 = p6 then (2 : Int32) else (-1 : Int32)) else (-1 : Int32))) else (if (2 : Int32) < p2 then (if p1 = p6 then (2 : Int32) else (-1 : Int32)) else (-1 : Int32)))) else (if (1 : Int32) < p2 then (if p1 = p5 then (1 : Int32) else (if (2 : Int32) < p2 then (if p1 = p6 then (2 : Int32) else (-1 : Int32)) else (-1 : Int32))) else (if (2 : Int32) < p2 then (if p1 = p6 then (2 : Int32) else (-1 : Int32)) else (-1 : Int32)))) := ⟨_, rfl⟩
    have k3 : ∀ t, Steps p.tables e below (s₁.setTop (mkF m 57 #[.val (.int p0), .val (.int p1), .val (.int p2), .val (.int p3), .val (.int p4), .val (.int p5), .val (.int p6), .val (.int p7), .val (.int ix), .unset] [])) t → Steps p.tables e below (s₁.setTop (entryFrame m #[(.int p0), (.int p1), (.int p2), (.int p3), (.int p4), (.int p5), (.int p6), (.int p7)] 10)) t := fun t k => k2 t (by
      show Steps p.tables e below (s₁.setTop (mkF m 10 #[.val (.int p0), .val (.int p1), .val (.int p2), .val (.int p3), .val (.int p4), .val (.int p5), .val (.int p6), .val (.int p7), .val (.int (-1 : Int32)), .unset] [])) _
      refine XS.iloadN X0.here hx rfl (hb hby d7_10) rfl ?_
      by_cases c11 : (0 : Int32) < p2
      ·
        show Steps p.tables e below (s₁.setTop (mkF m 11 #[.val (.int p0), .val (.int p1), .val (.int p2), .val (.int p3), .val (.int p4), .val (.int p5), .val (.int p6), .val (.int p7), .val (.int (-1 : Int32)), .unset] [(.int p2)])) _
        refine XS.ifNo X0.here hx rfl (hb hby d7_11) rfl ((if0 _ _).trans (tlt c11).2.2.2) ?_
        show Steps p.tables e below (s₁.setTop (mkF m 14 #[.val (.int p0), .val (.int p1), .val (.int p2), .val (.int p3), .val (.int p4), .val (.int p5), .val (.int p6), .val (.int p7), .val (.int (-1 : Int32)), .unset] [])) _
        refine XS.iloadN X0.here hx rfl (hb hby d7_14) rfl ?_
        show Steps p.tables e below (s₁.setTop (mkF m 15 #[.val (.int p0), .val (.int p1), .val (.int p2), .val (.int p3), .val (.int p4), .val (.int p5), .val (.int p6), .val (.int p7), .val (.int (-1 : Int32)), .unset] [(.int p1)])) _
        refine XS.iload X0.here hx rfl (hb hby d7_15) rfl ?_
        by_cases c17 : p1 = p4
        ·
          show Steps p.tables e below (s₁.setTop (mkF m 17 #[.val (.int p0), .val (.int p1), .val (.int p2), .val (.int p3), .val (.int p4), .val (.int p5), .val (.int p6), .val (.int p7), .val (.int (-1 : Int32)), .unset] [(.int p4), (.int p1)])) _
          refine XS.icmpNo X0.here hx rfl (hb hby d7_17) rfl (teq c17).2 ?_
          show Steps p.tables e below (s₁.setTop (mkF m 20 #[.val (.int p0), .val (.int p1), .val (.int p2), .val (.int p3), .val (.int p4), .val (.int p5), .val (.int p6), .val (.int p7), .val (.int (-1 : Int32)), .unset] [])) _
          refine XS.iconst X0.here hx rfl (hb hby d7_20) ?_
          show Steps p.tables e below (s₁.setTop (mkF m 21 #[.val (.int p0), .val (.int p1), .val (.int p2), .val (.int p3), .val (.int p4), .val (.int p5), .val (.int p6), .val (.int p7), .val (.int (-1 : Int32)), .unset] [(.int (0 : Int32))])) _
          refine XS.istore X0.here hx rfl (hb hby d7_21) rfl (l' := #[.val (.int p0), .val (.int p1), .val (.int p2), .val (.int p3), .val (.int p4), .val (.int p5), .val (.int p6), .val (.int p7), .val (.int (0 : Int32)), .unset]) rfl ?_
          show Steps p.tables e below (s₁.setTop (mkF m 23 #[.val (.int p0), .val (.int p1), .val (.int p2), .val (.int p3), .val (.int p4), .val (.int p5), .val (.int p6), .val (.int p7), .val (.int (0 : Int32)), .unset] [])) _
          refine XS.goto X0.here hx rfl (pc0 := 23) (pc' := 57) rfl (hb hby d7_23) (by decide) (by decide) ?_
          simp only [if_pos c11, if_pos c17] at hd_ix
          rw [hd_ix] at k
          exact k
        ·
          show Steps p.tables e below (s₁.setTop (mkF m 17 #[.val (.int p0), .val (.int p1), .val (.int p2), .val (.int p3), .val (.int p4), .val (.int p5), .val (.int p6), .val (.int p7), .val (.int (-1 : Int32)), .unset] [(.int p4), (.int p1)])) _
          refine XS.icmpYes X0.here hx rfl (pc0 := 17) (pc' := 26) rfl (hb hby d7_17) rfl (feq c17).2 (by decide) (by decide) ?_
          show Steps p.tables e below (s₁.setTop (mkF m 26 #[.val (.int p0), .val (.int p1), .val (.int p2), .val (.int p3), .val (.int p4), .val (.int p5), .val (.int p6), .val (.int p7), .val (.int (-1 : Int32)), .unset] [])) _
          refine XS.iloadN X0.here hx rfl (hb hby d7_26) rfl ?_
          show Steps p.tables e below (s₁.setTop (mkF m 27 #[.val (.int p0), .val (.int p1), .val (.int p2), .val (.int p3), .val (.int p4), .val (.int p5), .val (.int p6), .val (.int p7), .val (.int (-1 : Int32)), .unset] [(.int p2)])) _
          refine XS.iconst X0.here hx rfl (hb hby d7_27) ?_
          by_cases c28 : (1 : Int32) < p2
          ·
            show Steps p.tables e below (s₁.setTop (mkF m 28 #[.val (.int p0), .val (.int p1), .val (.int p2), .val (.int p3), .val (.int p4), .val (.int p5), .val (.int p6), .val (.int p7), .val (.int (-1 : Int32)), .unset] [(.int (1 : Int32)), (.int p2)])) _
            refine XS.icmpNo X0.here hx rfl (hb hby d7_28) rfl (tlt c28).2.2.2 ?_
            show Steps p.tables e below (s₁.setTop (mkF m 31 #[.val (.int p0), .val (.int p1), .val (.int p2), .val (.int p3), .val (.int p4), .val (.int p5), .val (.int p6), .val (.int p7), .val (.int (-1 : Int32)), .unset] [])) _
            refine XS.iloadN X0.here hx rfl (hb hby d7_31) rfl ?_
            show Steps p.tables e below (s₁.setTop (mkF m 32 #[.val (.int p0), .val (.int p1), .val (.int p2), .val (.int p3), .val (.int p4), .val (.int p5), .val (.int p6), .val (.int p7), .val (.int (-1 : Int32)), .unset] [(.int p1)])) _
            refine XS.iload X0.here hx rfl (hb hby d7_32) rfl ?_
            by_cases c34 : p1 = p5
            ·
              show Steps p.tables e below (s₁.setTop (mkF m 34 #[.val (.int p0), .val (.int p1), .val (.int p2), .val (.int p3), .val (.int p4), .val (.int p5), .val (.int p6), .val (.int p7), .val (.int (-1 : Int32)), .unset] [(.int p5), (.int p1)])) _
              refine XS.icmpNo X0.here hx rfl (hb hby d7_34) rfl (teq c34).2 ?_
              show Steps p.tables e below (s₁.setTop (mkF m 37 #[.val (.int p0), .val (.int p1), .val (.int p2), .val (.int p3), .val (.int p4), .val (.int p5), .val (.int p6), .val (.int p7), .val (.int (-1 : Int32)), .unset] [])) _
              refine XS.iconst X0.here hx rfl (hb hby d7_37) ?_
              show Steps p.tables e below (s₁.setTop (mkF m 38 #[.val (.int p0), .val (.int p1), .val (.int p2), .val (.int p3), .val (.int p4), .val (.int p5), .val (.int p6), .val (.int p7), .val (.int (-1 : Int32)), .unset] [(.int (1 : Int32))])) _
              refine XS.istore X0.here hx rfl (hb hby d7_38) rfl (l' := #[.val (.int p0), .val (.int p1), .val (.int p2), .val (.int p3), .val (.int p4), .val (.int p5), .val (.int p6), .val (.int p7), .val (.int (1 : Int32)), .unset]) rfl ?_
              show Steps p.tables e below (s₁.setTop (mkF m 40 #[.val (.int p0), .val (.int p1), .val (.int p2), .val (.int p3), .val (.int p4), .val (.int p5), .val (.int p6), .val (.int p7), .val (.int (1 : Int32)), .unset] [])) _
              refine XS.goto X0.here hx rfl (pc0 := 40) (pc' := 57) rfl (hb hby d7_40) (by decide) (by decide) ?_
              simp only [if_pos c11, if_neg c17, if_pos c28, if_pos c34] at hd_ix
              rw [hd_ix] at k
              exact k
            ·
              show Steps p.tables e below (s₁.setTop (mkF m 34 #[.val (.int p0), .val (.int p1), .val (.int p2), .val (.int p3), .val (.int p4), .val (.int p5), .val (.int p6), .val (.int p7), .val (.int (-1 : Int32)), .unset] [(.int p5), (.int p1)])) _
              refine XS.icmpYes X0.here hx rfl (pc0 := 34) (pc' := 43) rfl (hb hby d7_34) rfl (feq c34).2 (by decide) (by decide) ?_
              show Steps p.tables e below (s₁.setTop (mkF m 43 #[.val (.int p0), .val (.int p1), .val (.int p2), .val (.int p3), .val (.int p4), .val (.int p5), .val (.int p6), .val (.int p7), .val (.int (-1 : Int32)), .unset] [])) _
              refine XS.iloadN X0.here hx rfl (hb hby d7_43) rfl ?_
              show Steps p.tables e below (s₁.setTop (mkF m 44 #[.val (.int p0), .val (.int p1), .val (.int p2), .val (.int p3), .val (.int p4), .val (.int p5), .val (.int p6), .val (.int p7), .val (.int (-1 : Int32)), .unset] [(.int p2)])) _
              refine XS.iconst X0.here hx rfl (hb hby d7_44) ?_
              by_cases c45 : (2 : Int32) < p2
              ·
                show Steps p.tables e below (s₁.setTop (mkF m 45 #[.val (.int p0), .val (.int p1), .val (.int p2), .val (.int p3), .val (.int p4), .val (.int p5), .val (.int p6), .val (.int p7), .val (.int (-1 : Int32)), .unset] [(.int (2 : Int32)), (.int p2)])) _
                refine XS.icmpNo X0.here hx rfl (hb hby d7_45) rfl (tlt c45).2.2.2 ?_
                show Steps p.tables e below (s₁.setTop (mkF m 48 #[.val (.int p0), .val (.int p1), .val (.int p2), .val (.int p3), .val (.int p4), .val (.int p5), .val (.int p6), .val (.int p7), .val (.int (-1 : Int32)), .unset] [])) _
                refine XS.iloadN X0.here hx rfl (hb hby d7_48) rfl ?_
                show Steps p.tables e below (s₁.setTop (mkF m 49 #[.val (.int p0), .val (.int p1), .val (.int p2), .val (.int p3), .val (.int p4), .val (.int p5), .val (.int p6), .val (.int p7), .val (.int (-1 : Int32)), .unset] [(.int p1)])) _
                refine XS.iload X0.here hx rfl (hb hby d7_49) rfl ?_
                by_cases c51 : p1 = p6
                ·
                  show Steps p.tables e below (s₁.setTop (mkF m 51 #[.val (.int p0), .val (.int p1), .val (.int p2), .val (.int p3), .val (.int p4), .val (.int p5), .val (.int p6), .val (.int p7), .val (.int (-1 : Int32)), .unset] [(.int p6), (.int p1)])) _
                  refine XS.icmpNo X0.here hx rfl (hb hby d7_51) rfl (teq c51).2 ?_
                  show Steps p.tables e below (s₁.setTop (mkF m 54 #[.val (.int p0), .val (.int p1), .val (.int p2), .val (.int p3), .val (.int p4), .val (.int p5), .val (.int p6), .val (.int p7), .val (.int (-1 : Int32)), .unset] [])) _
                  refine XS.iconst X0.here hx rfl (hb hby d7_54) ?_
                  show Steps p.tables e below (s₁.setTop (mkF m 55 #[.val (.int p0), .val (.int p1), .val (.int p2), .val (.int p3), .val (.int p4), .val (.int p5), .val (.int p6), .val (.int p7), .val (.int (-1 : Int32)), .unset] [(.int (2 : Int32))])) _
                  refine XS.istore X0.here hx rfl (hb hby d7_55) rfl (l' := #[.val (.int p0), .val (.int p1), .val (.int p2), .val (.int p3), .val (.int p4), .val (.int p5), .val (.int p6), .val (.int p7), .val (.int (2 : Int32)), .unset]) rfl ?_
                  simp only [if_pos c11, if_neg c17, if_pos c28, if_neg c34, if_pos c45, if_pos c51] at hd_ix
                  rw [hd_ix] at k
                  exact k
                ·
                  show Steps p.tables e below (s₁.setTop (mkF m 51 #[.val (.int p0), .val (.int p1), .val (.int p2), .val (.int p3), .val (.int p4), .val (.int p5), .val (.int p6), .val (.int p7), .val (.int (-1 : Int32)), .unset] [(.int p6), (.int p1)])) _
                  refine XS.icmpYes X0.here hx rfl (pc0 := 51) (pc' := 57) rfl (hb hby d7_51) rfl (feq c51).2 (by decide) (by decide) ?_
                  simp only [if_pos c11, if_neg c17, if_pos c28, if_neg c34, if_pos c45, if_neg c51] at hd_ix
                  rw [hd_ix] at k
                  exact k
              ·
                show Steps p.tables e below (s₁.setTop (mkF m 45 #[.val (.int p0), .val (.int p1), .val (.int p2), .val (.int p3), .val (.int p4), .val (.int p5), .val (.int p6), .val (.int p7), .val (.int (-1 : Int32)), .unset] [(.int (2 : Int32)), (.int p2)])) _
                refine XS.icmpYes X0.here hx rfl (pc0 := 45) (pc' := 57) rfl (hb hby d7_45) rfl (flt c45).2.2.2 (by decide) (by decide) ?_
                simp only [if_pos c11, if_neg c17, if_pos c28, if_neg c34, if_neg c45] at hd_ix
                rw [hd_ix] at k
                exact k
          ·
            show Steps p.tables e below (s₁.setTop (mkF m 28 #[.val (.int p0), .val (.int p1), .val (.int p2), .val (.int p3), .val (.int p4), .val (.int p5), .val (.int p6), .val (.int p7), .val (.int (-1 : Int32)), .unset] [(.int (1 : Int32)), (.int p2)])) _
            refine XS.icmpYes X0.here hx rfl (pc0 := 28) (pc' := 43) rfl (hb hby d7_28) rfl (flt c28).2.2.2 (by decide) (by decide) ?_
            show Steps p.tables e below (s₁.setTop (mkF m 43 #[.val (.int p0), .val (.int p1), .val (.int p2), .val (.int p3), .val (.int p4), .val (.int p5), .val (.int p6), .val (.int p7), .val (.int (-1 : Int32)), .unset] [])) _
            refine XS.iloadN X0.here hx rfl (hb hby d7_43) rfl ?_
            show Steps p.tables e below (s₁.setTop (mkF m 44 #[.val (.int p0), .val (.int p1), .val (.int p2), .val (.int p3), .val (.int p4), .val (.int p5), .val (.int p6), .val (.int p7), .val (.int (-1 : Int32)), .unset] [(.int p2)])) _
            refine XS.iconst X0.here hx rfl (hb hby d7_44) ?_
            by_cases c45 : (2 : Int32) < p2
            ·
              show Steps p.tables e below (s₁.setTop (mkF m 45 #[.val (.int p0), .val (.int p1), .val (.int p2), .val (.int p3), .val (.int p4), .val (.int p5), .val (.int p6), .val (.int p7), .val (.int (-1 : Int32)), .unset] [(.int (2 : Int32)), (.int p2)])) _
              refine XS.icmpNo X0.here hx rfl (hb hby d7_45) rfl (tlt c45).2.2.2 ?_
              show Steps p.tables e below (s₁.setTop (mkF m 48 #[.val (.int p0), .val (.int p1), .val (.int p2), .val (.int p3), .val (.int p4), .val (.int p5), .val (.int p6), .val (.int p7), .val (.int (-1 : Int32)), .unset] [])) _
              refine XS.iloadN X0.here hx rfl (hb hby d7_48) rfl ?_
              show Steps p.tables e below (s₁.setTop (mkF m 49 #[.val (.int p0), .val (.int p1), .val (.int p2), .val (.int p3), .val (.int p4), .val (.int p5), .val (.int p6), .val (.int p7), .val (.int (-1 : Int32)), .unset] [(.int p1)])) _
              refine XS.iload X0.here hx rfl (hb hby d7_49) rfl ?_
              by_cases c51 : p1 = p6
              ·
                show Steps p.tables e below (s₁.setTop (mkF m 51 #[.val (.int p0), .val (.int p1), .val (.int p2), .val (.int p3), .val (.int p4), .val (.int p5), .val (.int p6), .val (.int p7), .val (.int (-1 : Int32)), .unset] [(.int p6), (.int p1)])) _
                refine XS.icmpNo X0.here hx rfl (hb hby d7_51) rfl (teq c51).2 ?_
                show Steps p.tables e below (s₁.setTop (mkF m 54 #[.val (.int p0), .val (.int p1), .val (.int p2), .val (.int p3), .val (.int p4), .val (.int p5), .val (.int p6), .val (.int p7), .val (.int (-1 : Int32)), .unset] [])) _
                refine XS.iconst X0.here hx rfl (hb hby d7_54) ?_
                show Steps p.tables e below (s₁.setTop (mkF m 55 #[.val (.int p0), .val (.int p1), .val (.int p2), .val (.int p3), .val (.int p4), .val (.int p5), .val (.int p6), .val (.int p7), .val (.int (-1 : Int32)), .unset] [(.int (2 : Int32))])) _
                refine XS.istore X0.here hx rfl (hb hby d7_55) rfl (l' := #[.val (.int p0), .val (.int p1), .val (.int p2), .val (.int p3), .val (.int p4), .val (.int p5), .val (.int p6), .val (.int p7), .val (.int (2 : Int32)), .unset]) rfl ?_
                simp only [if_pos c11, if_neg c17, if_neg c28, if_pos c45, if_pos c51] at hd_ix
                rw [hd_ix] at k
                exact k
              ·
                show Steps p.tables e below (s₁.setTop (mkF m 51 #[.val (.int p0), .val (.int p1), .val (.int p2), .val (.int p3), .val (.int p4), .val (.int p5), .val (.int p6), .val (.int p7), .val (.int (-1 : Int32)), .unset] [(.int p6), (.int p1)])) _
                refine XS.icmpYes X0.here hx rfl (pc0 := 51) (pc' := 57) rfl (hb hby d7_51) rfl (feq c51).2 (by decide) (by decide) ?_
                simp only [if_pos c11, if_neg c17, if_neg c28, if_pos c45, if_neg c51] at hd_ix
                rw [hd_ix] at k
                exact k
            ·
              show Steps p.tables e below (s₁.setTop (mkF m 45 #[.val (.int p0), .val (.int p1), .val (.int p2), .val (.int p3), .val (.int p4), .val (.int p5), .val (.int p6), .val (.int p7), .val (.int (-1 : Int32)), .unset] [(.int (2 : Int32)), (.int p2)])) _
              refine XS.icmpYes X0.here hx rfl (pc0 := 45) (pc' := 57) rfl (hb hby d7_45) rfl (flt c45).2.2.2 (by decide) (by decide) ?_
              simp only [if_pos c11, if_neg c17, if_neg c28, if_neg c45] at hd_ix
              rw [hd_ix] at k
              exact k
      ·
        show Steps p.tables e below (s₁.setTop (mkF m 11 #[.val (.int p0), .val (.int p1), .val (.int p2), .val (.int p3), .val (.int p4), .val (.int p5), .val (.int p6), .val (.int p7), .val (.int (-1 : Int32)), .unset] [(.int p2)])) _
        refine XS.ifYes X0.here hx rfl (pc0 := 11) (pc' := 26) rfl (hb hby d7_11) rfl ((if0 _ _).trans (flt c11).2.2.2) (by decide) (by decide) ?_
        show Steps p.tables e below (s₁.setTop (mkF m 26 #[.val (.int p0), .val (.int p1), .val (.int p2), .val (.int p3), .val (.int p4), .val (.int p5), .val (.int p6), .val (.int p7), .val (.int (-1 : Int32)), .unset] [])) _
        refine XS.iloadN X0.here hx rfl (hb hby d7_26) rfl ?_
        show Steps p.tables e below (s₁.setTop (mkF m 27 #[.val (.int p0), .val (.int p1), .val (.int p2), .val (.int p3), .val (.int p4), .val (.int p5), .val (.int p6), .val (.int p7), .val (.int (-1 : Int32)), .unset] [(.int p2)])) _
        refine XS.iconst X0.here hx rfl (hb hby d7_27) ?_
        by_cases c28 : (1 : Int32) < p2
        ·
          show Steps p.tables e below (s₁.setTop (mkF m 28 #[.val (.int p0), .val (.int p1), .val (.int p2), .val (.int p3), .val (.int p4), .val (.int p5), .val (.int p6), .val (.int p7), .val (.int (-1 : Int32)), .unset] [(.int (1 : Int32)), (.int p2)])) _
          refine XS.icmpNo X0.here hx rfl (hb hby d7_28) rfl (tlt c28).2.2.2 ?_
          show Steps p.tables e below (s₁.setTop (mkF m 31 #[.val (.int p0), .val (.int p1), .val (.int p2), .val (.int p3), .val (.int p4), .val (.int p5), .val (.int p6), .val (.int p7), .val (.int (-1 : Int32)), .unset] [])) _
          refine XS.iloadN X0.here hx rfl (hb hby d7_31) rfl ?_
          show Steps p.tables e below (s₁.setTop (mkF m 32 #[.val (.int p0), .val (.int p1), .val (.int p2), .val (.int p3), .val (.int p4), .val (.int p5), .val (.int p6), .val (.int p7), .val (.int (-1 : Int32)), .unset] [(.int p1)])) _
          refine XS.iload X0.here hx rfl (hb hby d7_32) rfl ?_
          by_cases c34 : p1 = p5
          ·
            show Steps p.tables e below (s₁.setTop (mkF m 34 #[.val (.int p0), .val (.int p1), .val (.int p2), .val (.int p3), .val (.int p4), .val (.int p5), .val (.int p6), .val (.int p7), .val (.int (-1 : Int32)), .unset] [(.int p5), (.int p1)])) _
            refine XS.icmpNo X0.here hx rfl (hb hby d7_34) rfl (teq c34).2 ?_
            show Steps p.tables e below (s₁.setTop (mkF m 37 #[.val (.int p0), .val (.int p1), .val (.int p2), .val (.int p3), .val (.int p4), .val (.int p5), .val (.int p6), .val (.int p7), .val (.int (-1 : Int32)), .unset] [])) _
            refine XS.iconst X0.here hx rfl (hb hby d7_37) ?_
            show Steps p.tables e below (s₁.setTop (mkF m 38 #[.val (.int p0), .val (.int p1), .val (.int p2), .val (.int p3), .val (.int p4), .val (.int p5), .val (.int p6), .val (.int p7), .val (.int (-1 : Int32)), .unset] [(.int (1 : Int32))])) _
            refine XS.istore X0.here hx rfl (hb hby d7_38) rfl (l' := #[.val (.int p0), .val (.int p1), .val (.int p2), .val (.int p3), .val (.int p4), .val (.int p5), .val (.int p6), .val (.int p7), .val (.int (1 : Int32)), .unset]) rfl ?_
            show Steps p.tables e below (s₁.setTop (mkF m 40 #[.val (.int p0), .val (.int p1), .val (.int p2), .val (.int p3), .val (.int p4), .val (.int p5), .val (.int p6), .val (.int p7), .val (.int (1 : Int32)), .unset] [])) _
            refine XS.goto X0.here hx rfl (pc0 := 40) (pc' := 57) rfl (hb hby d7_40) (by decide) (by decide) ?_
            simp only [if_neg c11, if_pos c28, if_pos c34] at hd_ix
            rw [hd_ix] at k
            exact k
          ·
            show Steps p.tables e below (s₁.setTop (mkF m 34 #[.val (.int p0), .val (.int p1), .val (.int p2), .val (.int p3), .val (.int p4), .val (.int p5), .val (.int p6), .val (.int p7), .val (.int (-1 : Int32)), .unset] [(.int p5), (.int p1)])) _
            refine XS.icmpYes X0.here hx rfl (pc0 := 34) (pc' := 43) rfl (hb hby d7_34) rfl (feq c34).2 (by decide) (by decide) ?_
            show Steps p.tables e below (s₁.setTop (mkF m 43 #[.val (.int p0), .val (.int p1), .val (.int p2), .val (.int p3), .val (.int p4), .val (.int p5), .val (.int p6), .val (.int p7), .val (.int (-1 : Int32)), .unset] [])) _
            refine XS.iloadN X0.here hx rfl (hb hby d7_43) rfl ?_
            show Steps p.tables e below (s₁.setTop (mkF m 44 #[.val (.int p0), .val (.int p1), .val (.int p2), .val (.int p3), .val (.int p4), .val (.int p5), .val (.int p6), .val (.int p7), .val (.int (-1 : Int32)), .unset] [(.int p2)])) _
            refine XS.iconst X0.here hx rfl (hb hby d7_44) ?_
            by_cases c45 : (2 : Int32) < p2
            ·
              show Steps p.tables e below (s₁.setTop (mkF m 45 #[.val (.int p0), .val (.int p1), .val (.int p2), .val (.int p3), .val (.int p4), .val (.int p5), .val (.int p6), .val (.int p7), .val (.int (-1 : Int32)), .unset] [(.int (2 : Int32)), (.int p2)])) _
              refine XS.icmpNo X0.here hx rfl (hb hby d7_45) rfl (tlt c45).2.2.2 ?_
              show Steps p.tables e below (s₁.setTop (mkF m 48 #[.val (.int p0), .val (.int p1), .val (.int p2), .val (.int p3), .val (.int p4), .val (.int p5), .val (.int p6), .val (.int p7), .val (.int (-1 : Int32)), .unset] [])) _
              refine XS.iloadN X0.here hx rfl (hb hby d7_48) rfl ?_
              show Steps p.tables e below (s₁.setTop (mkF m 49 #[.val (.int p0), .val (.int p1), .val (.int p2), .val (.int p3), .val (.int p4), .val (.int p5), .val (.int p6), .val (.int p7), .val (.int (-1 : Int32)), .unset] [(.int p1)])) _
              refine XS.iload X0.here hx rfl (hb hby d7_49) rfl ?_
              by_cases c51 : p1 = p6
              ·
                show Steps p.tables e below (s₁.setTop (mkF m 51 #[.val (.int p0), .val (.int p1), .val (.int p2), .val (.int p3), .val (.int p4), .val (.int p5), .val (.int p6), .val (.int p7), .val (.int (-1 : Int32)), .unset] [(.int p6), (.int p1)])) _
                refine XS.icmpNo X0.here hx rfl (hb hby d7_51) rfl (teq c51).2 ?_
                show Steps p.tables e below (s₁.setTop (mkF m 54 #[.val (.int p0), .val (.int p1), .val (.int p2), .val (.int p3), .val (.int p4), .val (.int p5), .val (.int p6), .val (.int p7), .val (.int (-1 : Int32)), .unset] [])) _
                refine XS.iconst X0.here hx rfl (hb hby d7_54) ?_
                show Steps p.tables e below (s₁.setTop (mkF m 55 #[.val (.int p0), .val (.int p1), .val (.int p2), .val (.int p3), .val (.int p4), .val (.int p5), .val (.int p6), .val (.int p7), .val (.int (-1 : Int32)), .unset] [(.int (2 : Int32))])) _
                refine XS.istore X0.here hx rfl (hb hby d7_55) rfl (l' := #[.val (.int p0), .val (.int p1), .val (.int p2), .val (.int p3), .val (.int p4), .val (.int p5), .val (.int p6), .val (.int p7), .val (.int (2 : Int32)), .unset]) rfl ?_
                simp only [if_neg c11, if_pos c28, if_neg c34, if_pos c45, if_pos c51] at hd_ix
                rw [hd_ix] at k
                exact k
              ·
                show Steps p.tables e below (s₁.setTop (mkF m 51 #[.val (.int p0), .val (.int p1), .val (.int p2), .val (.int p3), .val (.int p4), .val (.int p5), .val (.int p6), .val (.int p7), .val (.int (-1 : Int32)), .unset] [(.int p6), (.int p1)])) _
                refine XS.icmpYes X0.here hx rfl (pc0 := 51) (pc' := 57) rfl (hb hby d7_51) rfl (feq c51).2 (by decide) (by decide) ?_
                simp only [if_neg c11, if_pos c28, if_neg c34, if_pos c45, if_neg c51] at hd_ix
                rw [hd_ix] at k
                exact k
            ·
              show Steps p.tables e below (s₁.setTop (mkF m 45 #[.val (.int p0), .val (.int p1), .val (.int p2), .val (.int p3), .val (.int p4), .val (.int p5), .val (.int p6), .val (.int p7), .val (.int (-1 : Int32)), .unset] [(.int (2 : Int32)), (.int p2)])) _
              refine XS.icmpYes X0.here hx rfl (pc0 := 45) (pc' := 57) rfl (hb hby d7_45) rfl (flt c45).2.2.2 (by decide) (by decide) ?_
              simp only [if_neg c11, if_pos c28, if_neg c34, if_neg c45] at hd_ix
              rw [hd_ix] at k
              exact k
        ·
          show Steps p.tables e below (s₁.setTop (mkF m 28 #[.val (.int p0), .val (.int p1), .val (.int p2), .val (.int p3), .val (.int p4), .val (.int p5), .val (.int p6), .val (.int p7), .val (.int (-1 : Int32)), .unset] [(.int (1 : Int32)), (.int p2)])) _
          refine XS.icmpYes X0.here hx rfl (pc0 := 28) (pc' := 43) rfl (hb hby d7_28) rfl (flt c28).2.2.2 (by decide) (by decide) ?_
          show Steps p.tables e below (s₁.setTop (mkF m 43 #[.val (.int p0), .val (.int p1), .val (.int p2), .val (.int p3), .val (.int p4), .val (.int p5), .val (.int p6), .val (.int p7), .val (.int (-1 : Int32)), .unset] [])) _
          refine XS.iloadN X0.here hx rfl (hb hby d7_43) rfl ?_
          show Steps p.tables e below (s₁.setTop (mkF m 44 #[.val (.int p0), .val (.int p1), .val (.int p2), .val (.int p3), .val (.int p4), .val (.int p5), .val (.int p6), .val (.int p7), .val (.int (-1 : Int32)), .unset] [(.int p2)])) _
          refine XS.iconst X0.here hx rfl (hb hby d7_44) ?_
          by_cases c45 : (2 : Int32) < p2
          ·
            show Steps p.tables e below (s₁.setTop (mkF m 45 #[.val (.int p0), .val (.int p1), .val (.int p2), .val (.int p3), .val (.int p4), .val (.int p5), .val (.int p6), .val (.int p7), .val (.int (-1 : Int32)), .unset] [(.int (2 : Int32)), (.int p2)])) _
            refine XS.icmpNo X0.here hx rfl (hb hby d7_45) rfl (tlt c45).2.2.2 ?_
            show Steps p.tables e below (s₁.setTop (mkF m 48 #[.val (.int p0), .val (.int p1), .val (.int p2), .val (.int p3), .val (.int p4), .val (.int p5), .val (.int p6), .val (.int p7), .val (.int (-1 : Int32)), .unset] [])) _
            refine XS.iloadN X0.here hx rfl (hb hby d7_48) rfl ?_
            show Steps p.tables e below (s₁.setTop (mkF m 49 #[.val (.int p0), .val (.int p1), .val (.int p2), .val (.int p3), .val (.int p4), .val (.int p5), .val (.int p6), .val (.int p7), .val (.int (-1 : Int32)), .unset] [(.int p1)])) _
            refine XS.iload X0.here hx rfl (hb hby d7_49) rfl ?_
            by_cases c51 : p1 = p6
            ·
              show Steps p.tables e below (s₁.setTop (mkF m 51 #[.val (.int p0), .val (.int p1), .val (.int p2), .val (.int p3), .val (.int p4), .val (.int p5), .val (.int p6), .val (.int p7), .val (.int (-1 : Int32)), .unset] [(.int p6), (.int p1)])) _
              refine XS.icmpNo X0.here hx rfl (hb hby d7_51) rfl (teq c51).2 ?_
              show Steps p.tables e below (s₁.setTop (mkF m 54 #[.val (.int p0), .val (.int p1), .val (.int p2), .val (.int p3), .val (.int p4), .val (.int p5), .val (.int p6), .val (.int p7), .val (.int (-1 : Int32)), .unset] [])) _
              refine XS.iconst X0.here hx rfl (hb hby d7_54) ?_
              show Steps p.tables e below (s₁.setTop (mkF m 55 #[.val (.int p0), .val (.int p1), .val (.int p2), .val (.int p3), .val (.int p4), .val (.int p5), .val (.int p6), .val (.int p7), .val (.int (-1 : Int32)), .unset] [(.int (2 : Int32))])) _
              refine XS.istore X0.here hx rfl (hb hby d7_55) rfl (l' := #[.val (.int p0), .val (.int p1), .val (.int p2), .val (.int p3), .val (.int p4), .val (.int p5), .val (.int p6), .val (.int p7), .val (.int (2 : Int32)), .unset]) rfl ?_
              simp only [if_neg c11, if_neg c28, if_pos c45, if_pos c51] at hd_ix
              rw [hd_ix] at k
              exact k
            ·
              show Steps p.tables e below (s₁.setTop (mkF m 51 #[.val (.int p0), .val (.int p1), .val (.int p2), .val (.int p3), .val (.int p4), .val (.int p5), .val (.int p6), .val (.int p7), .val (.int (-1 : Int32)), .unset] [(.int p6), (.int p1)])) _
              refine XS.icmpYes X0.here hx rfl (pc0 := 51) (pc' := 57) rfl (hb hby d7_51) rfl (feq c51).2 (by decide) (by decide) ?_
              simp only [if_neg c11, if_neg c28, if_pos c45, if_neg c51] at hd_ix
              rw [hd_ix] at k
              exact k
          ·
            show Steps p.tables e below (s₁.setTop (mkF m 45 #[.val (.int p0), .val (.int p1), .val (.int p2), .val (.int p3), .val (.int p4), .val (.int p5), .val (.int p6), .val (.int p7), .val (.int (-1 : Int32)), .unset] [(.int (2 : Int32)), (.int p2)])) _
            refine XS.icmpYes X0.here hx rfl (pc0 := 45) (pc' := 57) rfl (hb hby d7_45) rfl (flt c45).2.2.2 (by decide) (by decide) ?_
            simp only [if_neg c11, if_neg c28, if_neg c45] at hd_ix
            rw [hd_ix] at k
            exact k)
    have hix : own_idx p1 p2 p4 p5 p6 = ix := hd_ix.symm
    have k4 : ∀ t, Steps p.tables e below (s₁.setTop (mkF m 59 #[.val (.int p0), .val (.int p1), .val (.int p2), .val (.int p3), .val (.int p4), .val (.int p5), .val (.int p6), .val (.int p7), .val (.int ix), .unset] [(.int ix)])) t → Steps p.tables e below (s₁.setTop (entryFrame m #[(.int p0), (.int p1), (.int p2), (.int p3), (.int p4), (.int p5), (.int p6), (.int p7)] 10)) t := fun t k => k3 t (by
      show Steps p.tables e below (s₁.setTop (mkF m 57 #[.val (.int p0), .val (.int p1), .val (.int p2), .val (.int p3), .val (.int p4), .val (.int p5), .val (.int p6), .val (.int p7), .val (.int ix), .unset] [])) _
      refine XS.iload X0.here hx rfl (hb hby d7_57) rfl ?_
      exact k)
    by_cases cd59 : ix < (0 : Int32)
    ·
      have hv : own_place p0 p1 p2 p3 p4 p5 p6 p7 = (0 : Int32) := by
        rw [show own_place p0 p1 p2 p3 p4 p5 p6 p7 = _ from if_pos cd2, hix]; exact if_pos cd59
      have k6 : ∀ t, Steps p.tables e below (s₁.setTop (mkF m 63 #[.val (.int p0), .val (.int p1), .val (.int p2), .val (.int p3), .val (.int p4), .val (.int p5), .val (.int p6), .val (.int p7), .val (.int ix), .unset] [(.int (0 : Int32))])) t → Steps p.tables e below (s₁.setTop (entryFrame m #[(.int p0), (.int p1), (.int p2), (.int p3), (.int p4), (.int p5), (.int p6), (.int p7)] 10)) t := fun t k => k4 t (by
        show Steps p.tables e below (s₁.setTop (mkF m 59 #[.val (.int p0), .val (.int p1), .val (.int p2), .val (.int p3), .val (.int p4), .val (.int p5), .val (.int p6), .val (.int p7), .val (.int ix), .unset] [(.int ix)])) _
        refine XS.ifNo X0.here hx rfl (hb hby d7_59) rfl ((if0 _ _).trans (tlt cd59).2.1) ?_
        show Steps p.tables e below (s₁.setTop (mkF m 62 #[.val (.int p0), .val (.int p1), .val (.int p2), .val (.int p3), .val (.int p4), .val (.int p5), .val (.int p6), .val (.int p7), .val (.int ix), .unset] [])) _
        refine XS.iconst X0.here hx rfl (hb hby d7_62) ?_
        exact k)
      obtain ⟨fs, hr, hrun, hended, hW, hsame⟩ := X0.leave (v := some (.int (0 : Int32))) (fun h => by rw [Bd.returns] at h; cases h) (BodyLoose.notSynchronized Bd)
      refine ⟨_, _, k6 _ ?_, hrun, hended, _, _, rfl, ?_, ⟨_, rfl⟩, hW, hsame.mono (by decide) (by decide)⟩
      · show Steps p.tables e below (s₁.setTop (mkF m 63 #[.val (.int p0), .val (.int p1), .val (.int p2), .val (.int p3), .val (.int p4), .val (.int p5), .val (.int p6), .val (.int p7), .val (.int ix), .unset] [(.int (0 : Int32))])) _
        exact retN X0 hx (t := .boolean) Bd.returns (by simp) (hb hby d7_63) hr
      ·
        show QplaceOk _ p0 p1 p2 p3 p4 p5 p6 p7 h0 n0 _ s₁.heap _
        rw [e0]
        exact ⟨by rw [hv], N0, rfl⟩
    ·
      have k7 : ∀ t, Steps p.tables e below (s₁.setTop (mkF m 64 #[.val (.int p0), .val (.int p1), .val (.int p2), .val (.int p3), .val (.int p4), .val (.int p5), .val (.int p6), .val (.int p7), .val (.int ix), .unset] [])) t → Steps p.tables e below (s₁.setTop (entryFrame m #[(.int p0), (.int p1), (.int p2), (.int p3), (.int p4), (.int p5), (.int p6), (.int p7)] 10)) t := fun t k => k4 t (by
        show Steps p.tables e below (s₁.setTop (mkF m 59 #[.val (.int p0), .val (.int p1), .val (.int p2), .val (.int p3), .val (.int p4), .val (.int p5), .val (.int p6), .val (.int p7), .val (.int ix), .unset] [(.int ix)])) _
        refine XS.ifYes X0.here hx rfl (pc0 := 59) (pc' := 64) rfl (hb hby d7_59) rfl ((if0 _ _).trans (flt cd59).2.1) (by decide) (by decide) ?_
        exact k)
      obtain ⟨fl, hd_fl⟩ : ∃ z : Int32, z = (if ((p7 >>> (ix &&& 31)) &&& (1 : Int32)) = (0 : Int32) then (0 : Int32) else (1 : Int32)) := ⟨_, rfl⟩
      have k8 : ∀ t, Steps p.tables e below (s₁.setTop (mkF m 81 #[.val (.int p0), .val (.int p1), .val (.int p2), .val (.int p3), .val (.int p4), .val (.int p5), .val (.int p6), .val (.int p7), .val (.int ix), .val (.int fl)] [])) t → Steps p.tables e below (s₁.setTop (entryFrame m #[(.int p0), (.int p1), (.int p2), (.int p3), (.int p4), (.int p5), (.int p6), (.int p7)] 10)) t := fun t k => k7 t (by
        show Steps p.tables e below (s₁.setTop (mkF m 64 #[.val (.int p0), .val (.int p1), .val (.int p2), .val (.int p3), .val (.int p4), .val (.int p5), .val (.int p6), .val (.int p7), .val (.int ix), .unset] [])) _
        refine XS.iload X0.here hx rfl (hb hby d7_64) rfl ?_
        show Steps p.tables e below (s₁.setTop (mkF m 66 #[.val (.int p0), .val (.int p1), .val (.int p2), .val (.int p3), .val (.int p4), .val (.int p5), .val (.int p6), .val (.int p7), .val (.int ix), .unset] [(.int p7)])) _
        refine XS.iload X0.here hx rfl (hb hby d7_66) rfl ?_
        show Steps p.tables e below (s₁.setTop (mkF m 68 #[.val (.int p0), .val (.int p1), .val (.int p2), .val (.int p3), .val (.int p4), .val (.int p5), .val (.int p6), .val (.int p7), .val (.int ix), .unset] [(.int ix), (.int p7)])) _
        refine XS.ishr X0.here hx rfl (hb hby d7_68) rfl ?_
        show Steps p.tables e below (s₁.setTop (mkF m 69 #[.val (.int p0), .val (.int p1), .val (.int p2), .val (.int p3), .val (.int p4), .val (.int p5), .val (.int p6), .val (.int p7), .val (.int ix), .unset] [(.int (p7 >>> (ix &&& 31)))])) _
        refine XS.iconst X0.here hx rfl (hb hby d7_69) ?_
        show Steps p.tables e below (s₁.setTop (mkF m 70 #[.val (.int p0), .val (.int p1), .val (.int p2), .val (.int p3), .val (.int p4), .val (.int p5), .val (.int p6), .val (.int p7), .val (.int ix), .unset] [(.int (1 : Int32)), (.int (p7 >>> (ix &&& 31)))])) _
        refine XS.iand X0.here hx rfl (hb hby d7_70) rfl ?_
        by_cases c71 : ((p7 >>> (ix &&& 31)) &&& (1 : Int32)) = (0 : Int32)
        ·
          show Steps p.tables e below (s₁.setTop (mkF m 71 #[.val (.int p0), .val (.int p1), .val (.int p2), .val (.int p3), .val (.int p4), .val (.int p5), .val (.int p6), .val (.int p7), .val (.int ix), .unset] [(.int ((p7 >>> (ix &&& 31)) &&& (1 : Int32)))])) _
          refine XS.ifYes X0.here hx rfl (pc0 := 71) (pc' := 78) rfl (hb hby d7_71) rfl ((if0 _ _).trans (teq c71).1) (by decide) (by decide) ?_
          show Steps p.tables e below (s₁.setTop (mkF m 78 #[.val (.int p0), .val (.int p1), .val (.int p2), .val (.int p3), .val (.int p4), .val (.int p5), .val (.int p6), .val (.int p7), .val (.int ix), .unset] [])) _
          refine XS.iconst X0.here hx rfl (hb hby d7_78) ?_
          show Steps p.tables e below (s₁.setTop (mkF m 79 #[.val (.int p0), .val (.int p1), .val (.int p2), .val (.int p3), .val (.int p4), .val (.int p5), .val (.int p6), .val (.int p7), .val (.int ix), .unset] [(.int (0 : Int32))])) _
          refine XS.istore X0.here hx rfl (hb hby d7_79) rfl (l' := #[.val (.int p0), .val (.int p1), .val (.int p2), .val (.int p3), .val (.int p4), .val (.int p5), .val (.int p6), .val (.int p7), .val (.int ix), .val (.int (0 : Int32))]) rfl ?_
          simp only [if_pos c71] at hd_fl
          rw [hd_fl] at k
          exact k
        ·
          show Steps p.tables e below (s₁.setTop (mkF m 71 #[.val (.int p0), .val (.int p1), .val (.int p2), .val (.int p3), .val (.int p4), .val (.int p5), .val (.int p6), .val (.int p7), .val (.int ix), .unset] [(.int ((p7 >>> (ix &&& 31)) &&& (1 : Int32)))])) _
          refine XS.ifNo X0.here hx rfl (hb hby d7_71) rfl ((if0 _ _).trans (feq c71).1) ?_
          show Steps p.tables e below (s₁.setTop (mkF m 74 #[.val (.int p0), .val (.int p1), .val (.int p2), .val (.int p3), .val (.int p4), .val (.int p5), .val (.int p6), .val (.int p7), .val (.int ix), .unset] [])) _
          refine XS.iconst X0.here hx rfl (hb hby d7_74) ?_
          show Steps p.tables e below (s₁.setTop (mkF m 75 #[.val (.int p0), .val (.int p1), .val (.int p2), .val (.int p3), .val (.int p4), .val (.int p5), .val (.int p6), .val (.int p7), .val (.int ix), .unset] [(.int (1 : Int32))])) _
          refine XS.goto X0.here hx rfl (pc0 := 75) (pc' := 79) rfl (hb hby d7_75) (by decide) (by decide) ?_
          show Steps p.tables e below (s₁.setTop (mkF m 79 #[.val (.int p0), .val (.int p1), .val (.int p2), .val (.int p3), .val (.int p4), .val (.int p5), .val (.int p6), .val (.int p7), .val (.int ix), .unset] [(.int (1 : Int32))])) _
          refine XS.istore X0.here hx rfl (hb hby d7_79) rfl (l' := #[.val (.int p0), .val (.int p1), .val (.int p2), .val (.int p3), .val (.int p4), .val (.int p5), .val (.int p6), .val (.int p7), .val (.int ix), .val (.int (1 : Int32))]) rfl ?_
          simp only [if_neg c71] at hd_fl
          rw [hd_fl] at k
          exact k)
      have hfl : own_flag p7 ix = fl := hd_fl.symm
      have k9 : ∀ t, Steps p.tables e below (s₁.setTop (mkF m 83 #[.val (.int p0), .val (.int p1), .val (.int p2), .val (.int p3), .val (.int p4), .val (.int p5), .val (.int p6), .val (.int p7), .val (.int ix), .val (.int fl)] [(.int fl)])) t → Steps p.tables e below (s₁.setTop (entryFrame m #[(.int p0), (.int p1), (.int p2), (.int p3), (.int p4), (.int p5), (.int p6), (.int p7)] 10)) t := fun t k => k8 t (by
        show Steps p.tables e below (s₁.setTop (mkF m 81 #[.val (.int p0), .val (.int p1), .val (.int p2), .val (.int p3), .val (.int p4), .val (.int p5), .val (.int p6), .val (.int p7), .val (.int ix), .val (.int fl)] [])) _
        refine XS.iload X0.here hx rfl (hb hby d7_81) rfl ?_
        exact k)
      obtain ⟨lt, hd_lt⟩ : ∃ z : Int32, z = (if p0 < p3 then (1 : Int32) else (0 : Int32)) := ⟨_, rfl⟩
      have k10 : ∀ t, Steps p.tables e below (s₁.setTop (mkF m 93 #[.val (.int p0), .val (.int p1), .val (.int p2), .val (.int p3), .val (.int p4), .val (.int p5), .val (.int p6), .val (.int p7), .val (.int ix), .val (.int fl)] [(.int lt), (.int fl)])) t → Steps p.tables e below (s₁.setTop (entryFrame m #[(.int p0), (.int p1), (.int p2), (.int p3), (.int p4), (.int p5), (.int p6), (.int p7)] 10)) t := fun t k => k9 t (by
        show Steps p.tables e below (s₁.setTop (mkF m 83 #[.val (.int p0), .val (.int p1), .val (.int p2), .val (.int p3), .val (.int p4), .val (.int p5), .val (.int p6), .val (.int p7), .val (.int ix), .val (.int fl)] [(.int fl)])) _
        refine XS.iloadN X0.here hx rfl (hb hby d7_83) rfl ?_
        show Steps p.tables e below (s₁.setTop (mkF m 84 #[.val (.int p0), .val (.int p1), .val (.int p2), .val (.int p3), .val (.int p4), .val (.int p5), .val (.int p6), .val (.int p7), .val (.int ix), .val (.int fl)] [(.int p0), (.int fl)])) _
        refine XS.iloadN X0.here hx rfl (hb hby d7_84) rfl ?_
        by_cases c85 : p0 < p3
        ·
          show Steps p.tables e below (s₁.setTop (mkF m 85 #[.val (.int p0), .val (.int p1), .val (.int p2), .val (.int p3), .val (.int p4), .val (.int p5), .val (.int p6), .val (.int p7), .val (.int ix), .val (.int fl)] [(.int p3), (.int p0), (.int fl)])) _
          refine XS.icmpNo X0.here hx rfl (hb hby d7_85) rfl (tlt c85).2.1 ?_
          show Steps p.tables e below (s₁.setTop (mkF m 88 #[.val (.int p0), .val (.int p1), .val (.int p2), .val (.int p3), .val (.int p4), .val (.int p5), .val (.int p6), .val (.int p7), .val (.int ix), .val (.int fl)] [(.int fl)])) _
          refine XS.iconst X0.here hx rfl (hb hby d7_88) ?_
          show Steps p.tables e below (s₁.setTop (mkF m 89 #[.val (.int p0), .val (.int p1), .val (.int p2), .val (.int p3), .val (.int p4), .val (.int p5), .val (.int p6), .val (.int p7), .val (.int ix), .val (.int fl)] [(.int (1 : Int32)), (.int fl)])) _
          refine XS.goto X0.here hx rfl (pc0 := 89) (pc' := 93) rfl (hb hby d7_89) (by decide) (by decide) ?_
          simp only [if_pos c85] at hd_lt
          rw [hd_lt] at k
          exact k
        ·
          show Steps p.tables e below (s₁.setTop (mkF m 85 #[.val (.int p0), .val (.int p1), .val (.int p2), .val (.int p3), .val (.int p4), .val (.int p5), .val (.int p6), .val (.int p7), .val (.int ix), .val (.int fl)] [(.int p3), (.int p0), (.int fl)])) _
          refine XS.icmpYes X0.here hx rfl (pc0 := 85) (pc' := 92) rfl (hb hby d7_85) rfl (flt c85).2.1 (by decide) (by decide) ?_
          show Steps p.tables e below (s₁.setTop (mkF m 92 #[.val (.int p0), .val (.int p1), .val (.int p2), .val (.int p3), .val (.int p4), .val (.int p5), .val (.int p6), .val (.int p7), .val (.int ix), .val (.int fl)] [(.int fl)])) _
          refine XS.iconst X0.here hx rfl (hb hby d7_92) ?_
          simp only [if_neg c85] at hd_lt
          rw [hd_lt] at k
          exact k)
      by_cases cd93 : fl = lt
      ·
        have hv : own_place p0 p1 p2 p3 p4 p5 p6 p7 = (1 : Int32) := by
          rw [show own_place p0 p1 p2 p3 p4 p5 p6 p7 = _ from if_pos cd2, hix]
          refine (if_neg cd59).trans ?_
          rw [hfl, ← hd_lt]; exact if_pos cd93
        have k12 : ∀ t, Steps p.tables e below (s₁.setTop (mkF m 101 #[.val (.int p0), .val (.int p1), .val (.int p2), .val (.int p3), .val (.int p4), .val (.int p5), .val (.int p6), .val (.int p7), .val (.int ix), .val (.int fl)] [(.int (1 : Int32))])) t → Steps p.tables e below (s₁.setTop (entryFrame m #[(.int p0), (.int p1), (.int p2), (.int p3), (.int p4), (.int p5), (.int p6), (.int p7)] 10)) t := fun t k => k10 t (by
          show Steps p.tables e below (s₁.setTop (mkF m 93 #[.val (.int p0), .val (.int p1), .val (.int p2), .val (.int p3), .val (.int p4), .val (.int p5), .val (.int p6), .val (.int p7), .val (.int ix), .val (.int fl)] [(.int lt), (.int fl)])) _
          refine XS.icmpNo X0.here hx rfl (hb hby d7_93) rfl (teq cd93).2 ?_
          show Steps p.tables e below (s₁.setTop (mkF m 96 #[.val (.int p0), .val (.int p1), .val (.int p2), .val (.int p3), .val (.int p4), .val (.int p5), .val (.int p6), .val (.int p7), .val (.int ix), .val (.int fl)] [])) _
          refine XS.iconst X0.here hx rfl (hb hby d7_96) ?_
          show Steps p.tables e below (s₁.setTop (mkF m 97 #[.val (.int p0), .val (.int p1), .val (.int p2), .val (.int p3), .val (.int p4), .val (.int p5), .val (.int p6), .val (.int p7), .val (.int ix), .val (.int fl)] [(.int (1 : Int32))])) _
          refine XS.goto X0.here hx rfl (pc0 := 97) (pc' := 101) rfl (hb hby d7_97) (by decide) (by decide) ?_
          exact k)
        obtain ⟨fs, hr, hrun, hended, hW, hsame⟩ := X0.leave (v := some (.int (1 : Int32))) (fun h => by rw [Bd.returns] at h; cases h) (BodyLoose.notSynchronized Bd)
        refine ⟨_, _, k12 _ ?_, hrun, hended, _, _, rfl, ?_, ⟨_, rfl⟩, hW, hsame.mono (by decide) (by decide)⟩
        · show Steps p.tables e below (s₁.setTop (mkF m 101 #[.val (.int p0), .val (.int p1), .val (.int p2), .val (.int p3), .val (.int p4), .val (.int p5), .val (.int p6), .val (.int p7), .val (.int ix), .val (.int fl)] [(.int (1 : Int32))])) _
          exact retN X0 hx (t := .boolean) Bd.returns (by simp) (hb hby d7_101) hr
        ·
          show QplaceOk _ p0 p1 p2 p3 p4 p5 p6 p7 h0 n0 _ s₁.heap _
          rw [e0]
          exact ⟨by rw [hv], N0, rfl⟩
      ·
        have hv : own_place p0 p1 p2 p3 p4 p5 p6 p7 = (0 : Int32) := by
          rw [show own_place p0 p1 p2 p3 p4 p5 p6 p7 = _ from if_pos cd2, hix]
          refine (if_neg cd59).trans ?_
          rw [hfl, ← hd_lt]; exact if_neg cd93
        have k14 : ∀ t, Steps p.tables e below (s₁.setTop (mkF m 101 #[.val (.int p0), .val (.int p1), .val (.int p2), .val (.int p3), .val (.int p4), .val (.int p5), .val (.int p6), .val (.int p7), .val (.int ix), .val (.int fl)] [(.int (0 : Int32))])) t → Steps p.tables e below (s₁.setTop (entryFrame m #[(.int p0), (.int p1), (.int p2), (.int p3), (.int p4), (.int p5), (.int p6), (.int p7)] 10)) t := fun t k => k10 t (by
          show Steps p.tables e below (s₁.setTop (mkF m 93 #[.val (.int p0), .val (.int p1), .val (.int p2), .val (.int p3), .val (.int p4), .val (.int p5), .val (.int p6), .val (.int p7), .val (.int ix), .val (.int fl)] [(.int lt), (.int fl)])) _
          refine XS.icmpYes X0.here hx rfl (pc0 := 93) (pc' := 100) rfl (hb hby d7_93) rfl (feq cd93).2 (by decide) (by decide) ?_
          show Steps p.tables e below (s₁.setTop (mkF m 100 #[.val (.int p0), .val (.int p1), .val (.int p2), .val (.int p3), .val (.int p4), .val (.int p5), .val (.int p6), .val (.int p7), .val (.int ix), .val (.int fl)] [])) _
          refine XS.iconst X0.here hx rfl (hb hby d7_100) ?_
          exact k)
        obtain ⟨fs, hr, hrun, hended, hW, hsame⟩ := X0.leave (v := some (.int (0 : Int32))) (fun h => by rw [Bd.returns] at h; cases h) (BodyLoose.notSynchronized Bd)
        refine ⟨_, _, k14 _ ?_, hrun, hended, _, _, rfl, ?_, ⟨_, rfl⟩, hW, hsame.mono (by decide) (by decide)⟩
        · show Steps p.tables e below (s₁.setTop (mkF m 101 #[.val (.int p0), .val (.int p1), .val (.int p2), .val (.int p3), .val (.int p4), .val (.int p5), .val (.int p6), .val (.int p7), .val (.int ix), .val (.int fl)] [(.int (0 : Int32))])) _
          exact retN X0 hx (t := .boolean) Bd.returns (by simp) (hb hby d7_101) hr
        ·
          show QplaceOk _ p0 p1 p2 p3 p4 p5 p6 p7 h0 n0 _ s₁.heap _
          rw [e0]
          exact ⟨by rw [hv], N0, rfl⟩
  ·
    have hv : own_place p0 p1 p2 p3 p4 p5 p6 p7 = (1 : Int32) := if_neg cd2
    have k16 : ∀ t, Steps p.tables e below (s₁.setTop (mkF m 6 #[.val (.int p0), .val (.int p1), .val (.int p2), .val (.int p3), .val (.int p4), .val (.int p5), .val (.int p6), .val (.int p7), .unset, .unset] [(.int (1 : Int32))])) t → Steps p.tables e below (s₁.setTop (entryFrame m #[(.int p0), (.int p1), (.int p2), (.int p3), (.int p4), (.int p5), (.int p6), (.int p7)] 10)) t := fun t k => k1 t (by
      show Steps p.tables e below (s₁.setTop (mkF m 2 #[.val (.int p0), .val (.int p1), .val (.int p2), .val (.int p3), .val (.int p4), .val (.int p5), .val (.int p6), .val (.int p7), .unset, .unset] [(.int p2), (.int p0)])) _
      refine XS.icmpNo X0.here hx rfl (hb hby d7_2) rfl (flt cd2).1 ?_
      show Steps p.tables e below (s₁.setTop (mkF m 5 #[.val (.int p0), .val (.int p1), .val (.int p2), .val (.int p3), .val (.int p4), .val (.int p5), .val (.int p6), .val (.int p7), .unset, .unset] [])) _
      refine XS.iconst X0.here hx rfl (hb hby d7_5) ?_
      exact k)
    obtain ⟨fs, hr, hrun, hended, hW, hsame⟩ := X0.leave (v := some (.int (1 : Int32))) (fun h => by rw [Bd.returns] at h; cases h) (BodyLoose.notSynchronized Bd)
    refine ⟨_, _, k16 _ ?_, hrun, hended, _, _, rfl, ?_, ⟨_, rfl⟩, hW, hsame.mono (by decide) (by decide)⟩
    · show Steps p.tables e below (s₁.setTop (mkF m 6 #[.val (.int p0), .val (.int p1), .val (.int p2), .val (.int p3), .val (.int p4), .val (.int p5), .val (.int p6), .val (.int p7), .unset, .unset] [(.int (1 : Int32))])) _
      exact retN X0 hx (t := .boolean) Bd.returns (by simp) (hb hby d7_6) hr
    ·
      show QplaceOk _ p0 p1 p2 p3 p4 p5 p6 p7 h0 n0 _ s₁.heap _
      rw [e0]
      exact ⟨by rw [hv], N0, rfl⟩
theorem d1_0 : decode prog_51_method_1_code 0 = .ok (.aload_n 0, 1) := by decide +kernel
theorem d1_1 : decode prog_51_method_1_code 1 = .ok (.invokespecial 3, 3) := by decide +kernel
theorem d1_4 : decode prog_51_method_1_code 4 = .ok (.aload_n 0, 1) := by decide +kernel
theorem d1_5 : decode prog_51_method_1_code 5 = .ok (.aload_n 1, 1) := by decide +kernel
theorem d1_6 : decode prog_51_method_1_code 6 = .ok (.putfield 9, 3) := by decide +kernel
theorem d1_9 : decode prog_51_method_1_code 9 = .ok (.aload_n 0, 1) := by decide +kernel
theorem d1_10 : decode prog_51_method_1_code 10 = .ok (.aload_n 2, 1) := by decide +kernel
theorem d1_11 : decode prog_51_method_1_code 11 = .ok (.putfield 15, 3) := by decide +kernel
theorem d1_14 : decode prog_51_method_1_code 14 = .ok (.aload_n 0, 1) := by decide +kernel
theorem d1_15 : decode prog_51_method_1_code 15 = .ok (.aload_n 3, 1) := by decide +kernel
theorem d1_16 : decode prog_51_method_1_code 16 = .ok (.putfield 18, 3) := by decide +kernel
theorem d1_19 : decode prog_51_method_1_code 19 = .ok (.aload_n 0, 1) := by decide +kernel
theorem d1_20 : decode prog_51_method_1_code 20 = .ok (.aload 4, 2) := by decide +kernel
theorem d1_22 : decode prog_51_method_1_code 22 = .ok (.putfield 21, 3) := by decide +kernel
theorem d1_25 : decode prog_51_method_1_code 25 = .ok (.aload_n 0, 1) := by decide +kernel
theorem d1_26 : decode prog_51_method_1_code 26 = .ok (.aload 5, 2) := by decide +kernel
theorem d1_28 : decode prog_51_method_1_code 28 = .ok (.putfield 24, 3) := by decide +kernel
theorem d1_31 : decode prog_51_method_1_code 31 = .ok (.aload_n 0, 1) := by decide +kernel
theorem d1_32 : decode prog_51_method_1_code 32 = .ok (.aload 6, 2) := by decide +kernel
theorem d1_34 : decode prog_51_method_1_code 34 = .ok (.putfield 27, 3) := by decide +kernel
theorem d1_37 : decode prog_51_method_1_code 37 = .ok (.aload_n 0, 1) := by decide +kernel
theorem d1_38 : decode prog_51_method_1_code 38 = .ok (.aload 7, 2) := by decide +kernel
theorem d1_40 : decode prog_51_method_1_code 40 = .ok (.putfield 31, 3) := by decide +kernel
theorem d1_43 : decode prog_51_method_1_code 43 = .ok (.aload_n 0, 1) := by decide +kernel
theorem d1_44 : decode prog_51_method_1_code 44 = .ok (.aload 8, 2) := by decide +kernel
theorem d1_46 : decode prog_51_method_1_code 46 = .ok (.putfield 35, 3) := by decide +kernel
theorem d1_49 : decode prog_51_method_1_code 49 = .ok (.aload 8, 2) := by decide +kernel
theorem d1_51 : decode prog_51_method_1_code 51 = .ok (.arraylength, 1) := by decide +kernel
theorem d1_52 : decode prog_51_method_1_code 52 = .ok (.istore 9, 2) := by decide +kernel
theorem d1_54 : decode prog_51_method_1_code 54 = .ok (.aload_n 0, 1) := by decide +kernel
theorem d1_55 : decode prog_51_method_1_code 55 = .ok (.iload 9, 2) := by decide +kernel
theorem d1_57 : decode prog_51_method_1_code 57 = .ok (.newarray .int, 2) := by decide +kernel
theorem d1_59 : decode prog_51_method_1_code 59 = .ok (.putfield 38, 3) := by decide +kernel
theorem d1_62 : decode prog_51_method_1_code 62 = .ok (.aload_n 0, 1) := by decide +kernel
theorem d1_63 : decode prog_51_method_1_code 63 = .ok (.iload 9, 2) := by decide +kernel
theorem d1_65 : decode prog_51_method_1_code 65 = .ok (.newarray .int, 2) := by decide +kernel
theorem d1_67 : decode prog_51_method_1_code 67 = .ok (.putfield 41, 3) := by decide +kernel
theorem d1_70 : decode prog_51_method_1_code 70 = .ok (.aload_n 0, 1) := by decide +kernel
theorem d1_71 : decode prog_51_method_1_code 71 = .ok (.iload 9, 2) := by decide +kernel
theorem d1_73 : decode prog_51_method_1_code 73 = .ok (.newarray .int, 2) := by decide +kernel
theorem d1_75 : decode prog_51_method_1_code 75 = .ok (.putfield 44, 3) := by decide +kernel
theorem d1_78 : decode prog_51_method_1_code 78 = .ok (.aload_n 0, 1) := by decide +kernel
theorem d1_79 : decode prog_51_method_1_code 79 = .ok (.iload 9, 2) := by decide +kernel
theorem d1_81 : decode prog_51_method_1_code 81 = .ok (.newarray .int, 2) := by decide +kernel
theorem d1_83 : decode prog_51_method_1_code 83 = .ok (.putfield 47, 3) := by decide +kernel
theorem d1_86 : decode prog_51_method_1_code 86 = .ok (.return_, 1) := by decide +kernel
theorem pn_1 : plainName "com/example/ariadne/ariadne/algo/SplitSearch" = true := by first | (simp [plainName, overriddenIn]; done) | decide +kernel
theorem ef_init (m : MethodId) (x0 : Addr) (x1 : Addr) (x2 : Addr) (x3 : Addr) (x4 : Addr) (x5 : Addr) (x8 : Addr) : entryFrame m #[(.ref x0), (.ref x1), (.ref x2), (.ref x3), (.ref x4), (.ref x5), .null, .null, (.ref x8)] 10 = mkF m 0 #[.val (.ref x0), .val (.ref x1), .val (.ref x2), .val (.ref x3), .val (.ref x4), .val (.ref x5), .val .null, .val .null, .val (.ref x8), .unset] [] := by first | (simp [entryFrame, mkF, argsToLocals, Value.category]; done) | rfl
def Qinit (Z : State) (a1 : Addr) (a2 : Addr) (a3 : Addr) (a4 : Addr) (a5 : Addr) (a6 : Addr) (a9 : Addr) (k9 : ClassId) (L9 : List Int32) (h0 : Heap) (n0 : Nat) (v : Option Value) (h : Heap) (L : List Loc) : Prop := v = none ∧ Fr n0 L ∧ Keep h0 h [a1] ∧ ∃ (ae am : Addr) (ke km : ClassId), (h0.size ≤ ae ∧ h0.size ≤ am ∧ ae ≠ am) ∧ own_SS Z h a1 0 0 0 [0, 0, 0] [0, 0, 0] ae am ke km
set_option maxRecDepth 65536 in
set_option maxHeartbeats 40000000 in
theorem rm_init (l : Launch) (Z : State) (a0 : Array Value) (hw : ∀ d ∈ tables_1, d.before a0 Z = true) (ws : List Jvm.Cond) (a1 : Addr) (a2 : Addr) (a3 : Addr) (a4 : Addr) (a5 : Addr) (a6 : Addr) (a9 : Addr) (k9 : ClassId) (L9 : List Int32) (h0 : Heap) (n0 : Nat) (Z0 : n0 ≤ h0.size) (E_a1 : Exa Z h0 a1 "com/example/ariadne/ariadne/algo/SplitSearch") (F_sources : Fld Z h0 a1 "com/example/ariadne/ariadne/algo/SplitSearch" "sources" "[I" .null) (F_outStart : Fld Z h0 a1 "com/example/ariadne/ariadne/algo/SplitSearch" "outStart" "[I" .null) (F_incoming : Fld Z h0 a1 "com/example/ariadne/ariadne/algo/SplitSearch" "incoming" "[I" .null) (F_inStart : Fld Z h0 a1 "com/example/ariadne/ariadne/algo/SplitSearch" "inStart" "[I" .null) (F_internalInEnd : Fld Z h0 a1 "com/example/ariadne/ariadne/algo/SplitSearch" "internalInEnd" "[I" .null) (F_blocks : Fld Z h0 a1 "com/example/ariadne/ariadne/algo/SplitSearch" "blocks" "Lcom/example/ariadne/ariadne/algo/Blocks;" .null) (F_sets : Fld Z h0 a1 "com/example/ariadne/ariadne/algo/SplitSearch" "sets" "Lcom/example/ariadne/ariadne/algo/StepSets;" .null) (F_inertCount : Fld Z h0 a1 "com/example/ariadne/ariadne/algo/SplitSearch" "inertCount" "[I" .null) (F_reaching : Fld Z h0 a1 "com/example/ariadne/ariadne/algo/SplitSearch" "reaching" "[I" .null) (F_rest : Fld Z h0 a1 "com/example/ariadne/ariadne/algo/SplitSearch" "rest" "[I" .null) (F_unknownInert : Fld Z h0 a1 "com/example/ariadne/ariadne/algo/SplitSearch" "unknownInert" "[I" .null) (F_roundMark : Fld Z h0 a1 "com/example/ariadne/ariadne/algo/SplitSearch" "roundMark" "[I" .null) (F_round : Fld Z h0 a1 "com/example/ariadne/ariadne/algo/SplitSearch" "round" "I" (.int (0 : Int32))) (F_reachCount : Fld Z h0 a1 "com/example/ariadne/ariadne/algo/SplitSearch" "reachCount" "I" (.int (0 : Int32))) (F_firstMarked : Fld Z h0 a1 "com/example/ariadne/ariadne/algo/SplitSearch" "firstMarked" "I" (.int (0 : Int32))) (F_restCount : Fld Z h0 a1 "com/example/ariadne/ariadne/algo/SplitSearch" "restCount" "I" (.int (0 : Int32))) (V_a9 : Arv Z h0 a9 k9 .int 3 (L9.map Value.int) (.int 0)) (g_a1 : n0 ≤ a1) (n9 : a1 ≠ a9) :
    MetFree l (⟨"com/example/ariadne/ariadne/algo/SplitSearch", "<init>", "([I[I[I[I[ILcom/example/ariadne/ariadne/algo/Blocks;Lcom/example/ariadne/ariadne/algo/StepSets;[I)V"⟩ : MethodName) (head1 (Jvm.Cond.code (⟨"com/example/ariadne/ariadne/algo/SplitSearch", "<init>", "([I[I[I[I[ILcom/example/ariadne/ariadne/algo/Blocks;Lcom/example/ariadne/ariadne/algo/StepSets;[I)V"⟩ : MethodName) prog_51_method_1_code 10 none :: ws) ({ frames := 1, cells := 4, slots := 12, locals := 12 } : Room)) (fun a U => a = #[(.ref a1), (.ref a2), (.ref a3), (.ref a4), (.ref a5), (.ref a6), .null, .null, (.ref a9)] ∧ Z.Warmed39 U.vm ∧ U.heap = h0) (fun _ _ _ _ _ => True) (fun _ U o U' => ∃ v L, o = .returned v ∧ Qinit Z a1 a2 a3 a4 a5 a6 a9 k9 L9 h0 n0 v U'.heap L ∧ FrameEnd U o U' L ({ frames := 1, cells := 4, slots := 12, locals := 12 } : Room).cells ({ frames := 1, cells := 4, slots := 12, locals := 12 } : Room).slots) := by
  refine MetFree.of_bodySF (plainFor_of_name pn_1) hisR ?_
  intro p e s m args below meth c s₁ Bd hml0 hP hK
  obtain ⟨rfl, hZ, hh⟩ := hP
  have hx := Bd.exec
  have hby := Bd.bytes
  have hml : c.maxLocals = 10 := hml0
  have hown : s.vm.findClass "com/example/ariadne/ariadne/algo/SplitSearch" = some m.cls := findClass_of_methodNamed Bd.named
  have hnm := (name_of_methodNamed Bd.named Bd.method).1
  have X0 : Stand p l e ({ frames := 1, cells := 4, slots := 12, locals := 12 } : Room) s m #[(.ref a1), (.ref a2), (.ref a3), (.ref a4), (.ref a5), (.ref a6), .null, .null, (.ref a9)] below meth c s₁ [] 0 0 := Stand.of_body Bd
  have e0 : s₁.heap = h0 := by rw [← hh, Bd.state]; rfl
  have N0 := Fr.nil n0
  have k0 : ∀ t, Steps p.tables e below (s₁.setTop (mkF m 0 #[.val (.ref a1), .val (.ref a2), .val (.ref a3), .val (.ref a4), .val (.ref a5), .val (.ref a6), .val .null, .val .null, .val (.ref a9), .unset] [])) t → Steps p.tables e below (s₁.setTop (entryFrame m #[(.ref a1), (.ref a2), (.ref a3), (.ref a4), (.ref a5), (.ref a6), .null, .null, (.ref a9)] 10)) t := fun t k => castTop (ef_init m a1 a2 a3 a4 a5 a6 a9) k
  obtain ⟨T1, X1, e1, st1⟩ := initO X0 hx hZ hown (hw _ (List.mem_of_getElem? (i := 8) rfl)) (hw _ (List.mem_of_getElem? (i := 9) rfl)) (hw _ (List.mem_of_getElem? (i := 10) rfl)) e0 (g := (mkF m 1 #[.val (.ref a1), .val (.ref a2), .val (.ref a3), .val (.ref a4), .val (.ref a5), .val (.ref a6), .val .null, .val .null, .val (.ref a9), .unset] [(.ref a1)])) rfl (by rw [hml]; rfl) rfl (hb hby d1_1) (by decide) (W := 0) (by show 2 * 0 + _ ≤ _; exact Nat.le_of_eq rfl) (by decide)
  obtain ⟨T2, h2, X2, e2, W2, st2⟩ := putF X1 hx hZ hown (host := "") (Or.inl (hw _ (List.mem_of_getElem? (i := 11) rfl))) Via.refl e1 F_sources E_a1 (Or.inr ⟨(hw _ (List.mem_of_getElem? (i := 12) rfl)), rfl, hnm⟩) (hw _ (List.mem_of_getElem? (i := 2) rfl)) (ty := (.array .int)) (by decide) rfl rfl (g := (mkF m 6 #[.val (.ref a1), .val (.ref a2), .val (.ref a3), .val (.ref a4), .val (.ref a5), .val (.ref a6), .val .null, .val .null, .val (.ref a9), .unset] [(.ref a2), (.ref a1)])) rfl rfl (hb hby d1_6)
  have N2 := Fr.snoc X2 N0 g_a1
  have F3 : Fld Z h2 a1 "com/example/ariadne/ariadne/algo/SplitSearch" "sources" "[I" (.ref a2) := F_sources.same W2
  have E4 : Exa Z h2 a1 "com/example/ariadne/ariadne/algo/SplitSearch" := E_a1.wr W2
  have F5 : Fld Z h2 a1 "com/example/ariadne/ariadne/algo/SplitSearch" "outStart" "[I" .null := F_outStart.other W2 (Or.inr (slot_ne (Or.inr (hw _ (List.mem_of_getElem? (i := 14) rfl))) (Or.inr (hw _ (List.mem_of_getElem? (i := 12) rfl))) (by decide) (t := (.array .int)) (t' := (.array .int)) (by decide) (by decide)))
  have F6 : Fld Z h2 a1 "com/example/ariadne/ariadne/algo/SplitSearch" "incoming" "[I" .null := F_incoming.other W2 (Or.inr (slot_ne (Or.inr (hw _ (List.mem_of_getElem? (i := 16) rfl))) (Or.inr (hw _ (List.mem_of_getElem? (i := 12) rfl))) (by decide) (t := (.array .int)) (t' := (.array .int)) (by decide) (by decide)))
  have F7 : Fld Z h2 a1 "com/example/ariadne/ariadne/algo/SplitSearch" "inStart" "[I" .null := F_inStart.other W2 (Or.inr (slot_ne (Or.inr (hw _ (List.mem_of_getElem? (i := 18) rfl))) (Or.inr (hw _ (List.mem_of_getElem? (i := 12) rfl))) (by decide) (t := (.array .int)) (t' := (.array .int)) (by decide) (by decide)))
  have F8 : Fld Z h2 a1 "com/example/ariadne/ariadne/algo/SplitSearch" "internalInEnd" "[I" .null := F_internalInEnd.other W2 (Or.inr (slot_ne (Or.inr (hw _ (List.mem_of_getElem? (i := 20) rfl))) (Or.inr (hw _ (List.mem_of_getElem? (i := 12) rfl))) (by decide) (t := (.array .int)) (t' := (.array .int)) (by decide) (by decide)))
  have F9 : Fld Z h2 a1 "com/example/ariadne/ariadne/algo/SplitSearch" "blocks" "Lcom/example/ariadne/ariadne/algo/Blocks;" .null := F_blocks.other W2 (Or.inr (slot_ne (Or.inr (hw _ (List.mem_of_getElem? (i := 22) rfl))) (Or.inr (hw _ (List.mem_of_getElem? (i := 12) rfl))) (by decide) (t := (.object "com/example/ariadne/ariadne/algo/Blocks")) (t' := (.array .int)) (by decide) (by decide)))
  have F10 : Fld Z h2 a1 "com/example/ariadne/ariadne/algo/SplitSearch" "sets" "Lcom/example/ariadne/ariadne/algo/StepSets;" .null := F_sets.other W2 (Or.inr (slot_ne (Or.inr (hw _ (List.mem_of_getElem? (i := 24) rfl))) (Or.inr (hw _ (List.mem_of_getElem? (i := 12) rfl))) (by decide) (t := (.object "com/example/ariadne/ariadne/algo/StepSets")) (t' := (.array .int)) (by decide) (by decide)))
  have F11 : Fld Z h2 a1 "com/example/ariadne/ariadne/algo/SplitSearch" "inertCount" "[I" .null := F_inertCount.other W2 (Or.inr (slot_ne (Or.inr (hw _ (List.mem_of_getElem? (i := 26) rfl))) (Or.inr (hw _ (List.mem_of_getElem? (i := 12) rfl))) (by decide) (t := (.array .int)) (t' := (.array .int)) (by decide) (by decide)))
  have F12 : Fld Z h2 a1 "com/example/ariadne/ariadne/algo/SplitSearch" "reaching" "[I" .null := F_reaching.other W2 (Or.inr (slot_ne (Or.inr (hw _ (List.mem_of_getElem? (i := 28) rfl))) (Or.inr (hw _ (List.mem_of_getElem? (i := 12) rfl))) (by decide) (t := (.array .int)) (t' := (.array .int)) (by decide) (by decide)))
  have F13 : Fld Z h2 a1 "com/example/ariadne/ariadne/algo/SplitSearch" "rest" "[I" .null := F_rest.other W2 (Or.inr (slot_ne (Or.inr (hw _ (List.mem_of_getElem? (i := 30) rfl))) (Or.inr (hw _ (List.mem_of_getElem? (i := 12) rfl))) (by decide) (t := (.array .int)) (t' := (.array .int)) (by decide) (by decide)))
  have F14 : Fld Z h2 a1 "com/example/ariadne/ariadne/algo/SplitSearch" "unknownInert" "[I" .null := F_unknownInert.other W2 (Or.inr (slot_ne (Or.inr (hw _ (List.mem_of_getElem? (i := 32) rfl))) (Or.inr (hw _ (List.mem_of_getElem? (i := 12) rfl))) (by decide) (t := (.array .int)) (t' := (.array .int)) (by decide) (by decide)))
  have F15 : Fld Z h2 a1 "com/example/ariadne/ariadne/algo/SplitSearch" "roundMark" "[I" .null := F_roundMark.other W2 (Or.inr (slot_ne (Or.inr (hw _ (List.mem_of_getElem? (i := 34) rfl))) (Or.inr (hw _ (List.mem_of_getElem? (i := 12) rfl))) (by decide) (t := (.array .int)) (t' := (.array .int)) (by decide) (by decide)))
  have F16 : Fld Z h2 a1 "com/example/ariadne/ariadne/algo/SplitSearch" "round" "I" (.int (0 : Int32)) := F_round.other W2 (Or.inr (slot_ne (Or.inl (hw _ (List.mem_of_getElem? (i := 41) rfl))) (Or.inr (hw _ (List.mem_of_getElem? (i := 12) rfl))) (by decide) (t := .int) (t' := (.array .int)) (by decide) (by decide)))
  have F17 : Fld Z h2 a1 "com/example/ariadne/ariadne/algo/SplitSearch" "reachCount" "I" (.int (0 : Int32)) := F_reachCount.other W2 (Or.inr (slot_ne (Or.inl (hw _ (List.mem_of_getElem? (i := 43) rfl))) (Or.inr (hw _ (List.mem_of_getElem? (i := 12) rfl))) (by decide) (t := .int) (t' := (.array .int)) (by decide) (by decide)))
  have F18 : Fld Z h2 a1 "com/example/ariadne/ariadne/algo/SplitSearch" "firstMarked" "I" (.int (0 : Int32)) := F_firstMarked.other W2 (Or.inr (slot_ne (Or.inl (hw _ (List.mem_of_getElem? (i := 45) rfl))) (Or.inr (hw _ (List.mem_of_getElem? (i := 12) rfl))) (by decide) (t := .int) (t' := (.array .int)) (by decide) (by decide)))
  have F19 : Fld Z h2 a1 "com/example/ariadne/ariadne/algo/SplitSearch" "restCount" "I" (.int (0 : Int32)) := F_restCount.other W2 (Or.inr (slot_ne (Or.inl (hw _ (List.mem_of_getElem? (i := 47) rfl))) (Or.inr (hw _ (List.mem_of_getElem? (i := 12) rfl))) (by decide) (t := .int) (t' := (.array .int)) (by decide) (by decide)))
  have V20 : Arv Z h2 a9 k9 .int 3 (L9.map Value.int) (.int 0) := V_a9.other W2 (Ne.symm n9)
  have K21 : Keep h0 h2 [a1] := (Keep.refl h0 [a1]).wr W2 (Or.inl (List.mem_of_getElem? (i := 0) rfl))
  obtain ⟨T22, h22, X22, e22, W22, st22⟩ := putF X2 hx hZ hown (host := "") (Or.inl (hw _ (List.mem_of_getElem? (i := 13) rfl))) Via.refl e2 F5 E4 (Or.inr ⟨(hw _ (List.mem_of_getElem? (i := 14) rfl)), rfl, hnm⟩) (hw _ (List.mem_of_getElem? (i := 2) rfl)) (ty := (.array .int)) (by decide) rfl rfl (g := (mkF m 11 #[.val (.ref a1), .val (.ref a2), .val (.ref a3), .val (.ref a4), .val (.ref a5), .val (.ref a6), .val .null, .val .null, .val (.ref a9), .unset] [(.ref a3), (.ref a1)])) rfl rfl (hb hby d1_11)
  have N22 := Fr.snoc X22 N2 g_a1
  have F23 : Fld Z h22 a1 "com/example/ariadne/ariadne/algo/SplitSearch" "outStart" "[I" (.ref a3) := F5.same W22
  have E24 : Exa Z h22 a1 "com/example/ariadne/ariadne/algo/SplitSearch" := E4.wr W22
  have F25 : Fld Z h22 a1 "com/example/ariadne/ariadne/algo/SplitSearch" "incoming" "[I" .null := F6.other W22 (Or.inr (slot_ne (Or.inr (hw _ (List.mem_of_getElem? (i := 16) rfl))) (Or.inr (hw _ (List.mem_of_getElem? (i := 14) rfl))) (by decide) (t := (.array .int)) (t' := (.array .int)) (by decide) (by decide)))
  have F26 : Fld Z h22 a1 "com/example/ariadne/ariadne/algo/SplitSearch" "inStart" "[I" .null := F7.other W22 (Or.inr (slot_ne (Or.inr (hw _ (List.mem_of_getElem? (i := 18) rfl))) (Or.inr (hw _ (List.mem_of_getElem? (i := 14) rfl))) (by decide) (t := (.array .int)) (t' := (.array .int)) (by decide) (by decide)))
  have F27 : Fld Z h22 a1 "com/example/ariadne/ariadne/algo/SplitSearch" "internalInEnd" "[I" .null := F8.other W22 (Or.inr (slot_ne (Or.inr (hw _ (List.mem_of_getElem? (i := 20) rfl))) (Or.inr (hw _ (List.mem_of_getElem? (i := 14) rfl))) (by decide) (t := (.array .int)) (t' := (.array .int)) (by decide) (by decide)))
  have F28 : Fld Z h22 a1 "com/example/ariadne/ariadne/algo/SplitSearch" "blocks" "Lcom/example/ariadne/ariadne/algo/Blocks;" .null := F9.other W22 (Or.inr (slot_ne (Or.inr (hw _ (List.mem_of_getElem? (i := 22) rfl))) (Or.inr (hw _ (List.mem_of_getElem? (i := 14) rfl))) (by decide) (t := (.object "com/example/ariadne/ariadne/algo/Blocks")) (t' := (.array .int)) (by decide) (by decide)))
  have F29 : Fld Z h22 a1 "com/example/ariadne/ariadne/algo/SplitSearch" "sets" "Lcom/example/ariadne/ariadne/algo/StepSets;" .null := F10.other W22 (Or.inr (slot_ne (Or.inr (hw _ (List.mem_of_getElem? (i := 24) rfl))) (Or.inr (hw _ (List.mem_of_getElem? (i := 14) rfl))) (by decide) (t := (.object "com/example/ariadne/ariadne/algo/StepSets")) (t' := (.array .int)) (by decide) (by decide)))
  have F30 : Fld Z h22 a1 "com/example/ariadne/ariadne/algo/SplitSearch" "inertCount" "[I" .null := F11.other W22 (Or.inr (slot_ne (Or.inr (hw _ (List.mem_of_getElem? (i := 26) rfl))) (Or.inr (hw _ (List.mem_of_getElem? (i := 14) rfl))) (by decide) (t := (.array .int)) (t' := (.array .int)) (by decide) (by decide)))
  have F31 : Fld Z h22 a1 "com/example/ariadne/ariadne/algo/SplitSearch" "reaching" "[I" .null := F12.other W22 (Or.inr (slot_ne (Or.inr (hw _ (List.mem_of_getElem? (i := 28) rfl))) (Or.inr (hw _ (List.mem_of_getElem? (i := 14) rfl))) (by decide) (t := (.array .int)) (t' := (.array .int)) (by decide) (by decide)))
  have F32 : Fld Z h22 a1 "com/example/ariadne/ariadne/algo/SplitSearch" "rest" "[I" .null := F13.other W22 (Or.inr (slot_ne (Or.inr (hw _ (List.mem_of_getElem? (i := 30) rfl))) (Or.inr (hw _ (List.mem_of_getElem? (i := 14) rfl))) (by decide) (t := (.array .int)) (t' := (.array .int)) (by decide) (by decide)))
  have F33 : Fld Z h22 a1 "com/example/ariadne/ariadne/algo/SplitSearch" "unknownInert" "[I" .null := F14.other W22 (Or.inr (slot_ne (Or.inr (hw _ (List.mem_of_getElem? (i := 32) rfl))) (Or.inr (hw _ (List.mem_of_getElem? (i := 14) rfl))) (by decide) (t := (.array .int)) (t' := (.array .int)) (by decide) (by decide)))
  have F34 : Fld Z h22 a1 "com/example/ariadne/ariadne/algo/SplitSearch" "roundMark" "[I" .null := F15.other W22 (Or.inr (slot_ne (Or.inr (hw _ (List.mem_of_getElem? (i := 34) rfl))) (Or.inr (hw _ (List.mem_of_getElem? (i := 14) rfl))) (by decide) (t := (.array .int)) (t' := (.array .int)) (by decide) (by decide)))
  have F35 : Fld Z h22 a1 "com/example/ariadne/ariadne/algo/SplitSearch" "round" "I" (.int (0 : Int32)) := F16.other W22 (Or.inr (slot_ne (Or.inl (hw _ (List.mem_of_getElem? (i := 41) rfl))) (Or.inr (hw _ (List.mem_of_getElem? (i := 14) rfl))) (by decide) (t := .int) (t' := (.array .int)) (by decide) (by decide)))
  have F36 : Fld Z h22 a1 "com/example/ariadne/ariadne/algo/SplitSearch" "reachCount" "I" (.int (0 : Int32)) := F17.other W22 (Or.inr (slot_ne (Or.inl (hw _ (List.mem_of_getElem? (i := 43) rfl))) (Or.inr (hw _ (List.mem_of_getElem? (i := 14) rfl))) (by decide) (t := .int) (t' := (.array .int)) (by decide) (by decide)))
  have F37 : Fld Z h22 a1 "com/example/ariadne/ariadne/algo/SplitSearch" "firstMarked" "I" (.int (0 : Int32)) := F18.other W22 (Or.inr (slot_ne (Or.inl (hw _ (List.mem_of_getElem? (i := 45) rfl))) (Or.inr (hw _ (List.mem_of_getElem? (i := 14) rfl))) (by decide) (t := .int) (t' := (.array .int)) (by decide) (by decide)))
  have F38 : Fld Z h22 a1 "com/example/ariadne/ariadne/algo/SplitSearch" "restCount" "I" (.int (0 : Int32)) := F19.other W22 (Or.inr (slot_ne (Or.inl (hw _ (List.mem_of_getElem? (i := 47) rfl))) (Or.inr (hw _ (List.mem_of_getElem? (i := 14) rfl))) (by decide) (t := .int) (t' := (.array .int)) (by decide) (by decide)))
  have V39 : Arv Z h22 a9 k9 .int 3 (L9.map Value.int) (.int 0) := V20.other W22 (Ne.symm n9)
  have K40 : Keep h0 h22 [a1] := K21.wr W22 (Or.inl (List.mem_of_getElem? (i := 0) rfl))
  obtain ⟨T41, h41, X41, e41, W41, st41⟩ := putF X22 hx hZ hown (host := "") (Or.inl (hw _ (List.mem_of_getElem? (i := 15) rfl))) Via.refl e22 F25 E24 (Or.inr ⟨(hw _ (List.mem_of_getElem? (i := 16) rfl)), rfl, hnm⟩) (hw _ (List.mem_of_getElem? (i := 2) rfl)) (ty := (.array .int)) (by decide) rfl rfl (g := (mkF m 16 #[.val (.ref a1), .val (.ref a2), .val (.ref a3), .val (.ref a4), .val (.ref a5), .val (.ref a6), .val .null, .val .null, .val (.ref a9), .unset] [(.ref a4), (.ref a1)])) rfl rfl (hb hby d1_16)
  have N41 := Fr.snoc X41 N22 g_a1
  have F42 : Fld Z h41 a1 "com/example/ariadne/ariadne/algo/SplitSearch" "incoming" "[I" (.ref a4) := F25.same W41
  have E43 : Exa Z h41 a1 "com/example/ariadne/ariadne/algo/SplitSearch" := E24.wr W41
  have F44 : Fld Z h41 a1 "com/example/ariadne/ariadne/algo/SplitSearch" "inStart" "[I" .null := F26.other W41 (Or.inr (slot_ne (Or.inr (hw _ (List.mem_of_getElem? (i := 18) rfl))) (Or.inr (hw _ (List.mem_of_getElem? (i := 16) rfl))) (by decide) (t := (.array .int)) (t' := (.array .int)) (by decide) (by decide)))
  have F45 : Fld Z h41 a1 "com/example/ariadne/ariadne/algo/SplitSearch" "internalInEnd" "[I" .null := F27.other W41 (Or.inr (slot_ne (Or.inr (hw _ (List.mem_of_getElem? (i := 20) rfl))) (Or.inr (hw _ (List.mem_of_getElem? (i := 16) rfl))) (by decide) (t := (.array .int)) (t' := (.array .int)) (by decide) (by decide)))
  have F46 : Fld Z h41 a1 "com/example/ariadne/ariadne/algo/SplitSearch" "blocks" "Lcom/example/ariadne/ariadne/algo/Blocks;" .null := F28.other W41 (Or.inr (slot_ne (Or.inr (hw _ (List.mem_of_getElem? (i := 22) rfl))) (Or.inr (hw _ (List.mem_of_getElem? (i := 16) rfl))) (by decide) (t := (.object "com/example/ariadne/ariadne/algo/Blocks")) (t' := (.array .int)) (by decide) (by decide)))
  have F47 : Fld Z h41 a1 "com/example/ariadne/ariadne/algo/SplitSearch" "sets" "Lcom/example/ariadne/ariadne/algo/StepSets;" .null := F29.other W41 (Or.inr (slot_ne (Or.inr (hw _ (List.mem_of_getElem? (i := 24) rfl))) (Or.inr (hw _ (List.mem_of_getElem? (i := 16) rfl))) (by decide) (t := (.object "com/example/ariadne/ariadne/algo/StepSets")) (t' := (.array .int)) (by decide) (by decide)))
  have F48 : Fld Z h41 a1 "com/example/ariadne/ariadne/algo/SplitSearch" "inertCount" "[I" .null := F30.other W41 (Or.inr (slot_ne (Or.inr (hw _ (List.mem_of_getElem? (i := 26) rfl))) (Or.inr (hw _ (List.mem_of_getElem? (i := 16) rfl))) (by decide) (t := (.array .int)) (t' := (.array .int)) (by decide) (by decide)))
  have F49 : Fld Z h41 a1 "com/example/ariadne/ariadne/algo/SplitSearch" "reaching" "[I" .null := F31.other W41 (Or.inr (slot_ne (Or.inr (hw _ (List.mem_of_getElem? (i := 28) rfl))) (Or.inr (hw _ (List.mem_of_getElem? (i := 16) rfl))) (by decide) (t := (.array .int)) (t' := (.array .int)) (by decide) (by decide)))
  have F50 : Fld Z h41 a1 "com/example/ariadne/ariadne/algo/SplitSearch" "rest" "[I" .null := F32.other W41 (Or.inr (slot_ne (Or.inr (hw _ (List.mem_of_getElem? (i := 30) rfl))) (Or.inr (hw _ (List.mem_of_getElem? (i := 16) rfl))) (by decide) (t := (.array .int)) (t' := (.array .int)) (by decide) (by decide)))
  have F51 : Fld Z h41 a1 "com/example/ariadne/ariadne/algo/SplitSearch" "unknownInert" "[I" .null := F33.other W41 (Or.inr (slot_ne (Or.inr (hw _ (List.mem_of_getElem? (i := 32) rfl))) (Or.inr (hw _ (List.mem_of_getElem? (i := 16) rfl))) (by decide) (t := (.array .int)) (t' := (.array .int)) (by decide) (by decide)))
  have F52 : Fld Z h41 a1 "com/example/ariadne/ariadne/algo/SplitSearch" "roundMark" "[I" .null := F34.other W41 (Or.inr (slot_ne (Or.inr (hw _ (List.mem_of_getElem? (i := 34) rfl))) (Or.inr (hw _ (List.mem_of_getElem? (i := 16) rfl))) (by decide) (t := (.array .int)) (t' := (.array .int)) (by decide) (by decide)))
  have F53 : Fld Z h41 a1 "com/example/ariadne/ariadne/algo/SplitSearch" "round" "I" (.int (0 : Int32)) := F35.other W41 (Or.inr (slot_ne (Or.inl (hw _ (List.mem_of_getElem? (i := 41) rfl))) (Or.inr (hw _ (List.mem_of_getElem? (i := 16) rfl))) (by decide) (t := .int) (t' := (.array .int)) (by decide) (by decide)))
  have F54 : Fld Z h41 a1 "com/example/ariadne/ariadne/algo/SplitSearch" "reachCount" "I" (.int (0 : Int32)) := F36.other W41 (Or.inr (slot_ne (Or.inl (hw _ (List.mem_of_getElem? (i := 43) rfl))) (Or.inr (hw _ (List.mem_of_getElem? (i := 16) rfl))) (by decide) (t := .int) (t' := (.array .int)) (by decide) (by decide)))
  have F55 : Fld Z h41 a1 "com/example/ariadne/ariadne/algo/SplitSearch" "firstMarked" "I" (.int (0 : Int32)) := F37.other W41 (Or.inr (slot_ne (Or.inl (hw _ (List.mem_of_getElem? (i := 45) rfl))) (Or.inr (hw _ (List.mem_of_getElem? (i := 16) rfl))) (by decide) (t := .int) (t' := (.array .int)) (by decide) (by decide)))
  have F56 : Fld Z h41 a1 "com/example/ariadne/ariadne/algo/SplitSearch" "restCount" "I" (.int (0 : Int32)) := F38.other W41 (Or.inr (slot_ne (Or.inl (hw _ (List.mem_of_getElem? (i := 47) rfl))) (Or.inr (hw _ (List.mem_of_getElem? (i := 16) rfl))) (by decide) (t := .int) (t' := (.array .int)) (by decide) (by decide)))
  have V57 : Arv Z h41 a9 k9 .int 3 (L9.map Value.int) (.int 0) := V39.other W41 (Ne.symm n9)
  have K58 : Keep h0 h41 [a1] := K40.wr W41 (Or.inl (List.mem_of_getElem? (i := 0) rfl))
  obtain ⟨T59, h59, X59, e59, W59, st59⟩ := putF X41 hx hZ hown (host := "") (Or.inl (hw _ (List.mem_of_getElem? (i := 17) rfl))) Via.refl e41 F44 E43 (Or.inr ⟨(hw _ (List.mem_of_getElem? (i := 18) rfl)), rfl, hnm⟩) (hw _ (List.mem_of_getElem? (i := 2) rfl)) (ty := (.array .int)) (by decide) rfl rfl (g := (mkF m 22 #[.val (.ref a1), .val (.ref a2), .val (.ref a3), .val (.ref a4), .val (.ref a5), .val (.ref a6), .val .null, .val .null, .val (.ref a9), .unset] [(.ref a5), (.ref a1)])) rfl rfl (hb hby d1_22)
  have N59 := Fr.snoc X59 N41 g_a1
  have F60 : Fld Z h59 a1 "com/example/ariadne/ariadne/algo/SplitSearch" "inStart" "[I" (.ref a5) := F44.same W59
  have E61 : Exa Z h59 a1 "com/example/ariadne/ariadne/algo/SplitSearch" := E43.wr W59
  have F62 : Fld Z h59 a1 "com/example/ariadne/ariadne/algo/SplitSearch" "internalInEnd" "[I" .null := F45.other W59 (Or.inr (slot_ne (Or.inr (hw _ (List.mem_of_getElem? (i := 20) rfl))) (Or.inr (hw _ (List.mem_of_getElem? (i := 18) rfl))) (by decide) (t := (.array .int)) (t' := (.array .int)) (by decide) (by decide)))
  have F63 : Fld Z h59 a1 "com/example/ariadne/ariadne/algo/SplitSearch" "blocks" "Lcom/example/ariadne/ariadne/algo/Blocks;" .null := F46.other W59 (Or.inr (slot_ne (Or.inr (hw _ (List.mem_of_getElem? (i := 22) rfl))) (Or.inr (hw _ (List.mem_of_getElem? (i := 18) rfl))) (by decide) (t := (.object "com/example/ariadne/ariadne/algo/Blocks")) (t' := (.array .int)) (by decide) (by decide)))
  have F64 : Fld Z h59 a1 "com/example/ariadne/ariadne/algo/SplitSearch" "sets" "Lcom/example/ariadne/ariadne/algo/StepSets;" .null := F47.other W59 (Or.inr (slot_ne (Or.inr (hw _ (List.mem_of_getElem? (i := 24) rfl))) (Or.inr (hw _ (List.mem_of_getElem? (i := 18) rfl))) (by decide) (t := (.object "com/example/ariadne/ariadne/algo/StepSets")) (t' := (.array .int)) (by decide) (by decide)))
  have F65 : Fld Z h59 a1 "com/example/ariadne/ariadne/algo/SplitSearch" "inertCount" "[I" .null := F48.other W59 (Or.inr (slot_ne (Or.inr (hw _ (List.mem_of_getElem? (i := 26) rfl))) (Or.inr (hw _ (List.mem_of_getElem? (i := 18) rfl))) (by decide) (t := (.array .int)) (t' := (.array .int)) (by decide) (by decide)))
  have F66 : Fld Z h59 a1 "com/example/ariadne/ariadne/algo/SplitSearch" "reaching" "[I" .null := F49.other W59 (Or.inr (slot_ne (Or.inr (hw _ (List.mem_of_getElem? (i := 28) rfl))) (Or.inr (hw _ (List.mem_of_getElem? (i := 18) rfl))) (by decide) (t := (.array .int)) (t' := (.array .int)) (by decide) (by decide)))
  have F67 : Fld Z h59 a1 "com/example/ariadne/ariadne/algo/SplitSearch" "rest" "[I" .null := F50.other W59 (Or.inr (slot_ne (Or.inr (hw _ (List.mem_of_getElem? (i := 30) rfl))) (Or.inr (hw _ (List.mem_of_getElem? (i := 18) rfl))) (by decide) (t := (.array .int)) (t' := (.array .int)) (by decide) (by decide)))
  have F68 : Fld Z h59 a1 "com/example/ariadne/ariadne/algo/SplitSearch" "unknownInert" "[I" .null := F51.other W59 (Or.inr (slot_ne (Or.inr (hw _ (List.mem_of_getElem? (i := 32) rfl))) (Or.inr (hw _ (List.mem_of_getElem? (i := 18) rfl))) (by decide) (t := (.array .int)) (t' := (.array .int)) (by decide) (by decide)))
  have F69 : Fld Z h59 a1 "com/example/ariadne/ariadne/algo/SplitSearch" "roundMark" "[I" .null := F52.other W59 (Or.inr (slot_ne (Or.inr (hw _ (List.mem_of_getElem? (i := 34) rfl))) (Or.inr (hw _ (List.mem_of_getElem? (i := 18) rfl))) (by decide) (t := (.array .int)) (t' := (.array .int)) (by decide) (by decide)))
  have F70 : Fld Z h59 a1 "com/example/ariadne/ariadne/algo/SplitSearch" "round" "I" (.int (0 : Int32)) := F53.other W59 (Or.inr (slot_ne (Or.inl (hw _ (List.mem_of_getElem? (i := 41) rfl))) (Or.inr (hw _ (List.mem_of_getElem? (i := 18) rfl))) (by decide) (t := .int) (t' := (.array .int)) (by decide) (by decide)))
  have F71 : Fld Z h59 a1 "com/example/ariadne/ariadne/algo/SplitSearch" "reachCount" "I" (.int (0 : Int32)) := F54.other W59 (Or.inr (slot_ne (Or.inl (hw _ (List.mem_of_getElem? (i := 43) rfl))) (Or.inr (hw _ (List.mem_of_getElem? (i := 18) rfl))) (by decide) (t := .int) (t' := (.array .int)) (by decide) (by decide)))
  have F72 : Fld Z h59 a1 "com/example/ariadne/ariadne/algo/SplitSearch" "firstMarked" "I" (.int (0 : Int32)) := F55.other W59 (Or.inr (slot_ne (Or.inl (hw _ (List.mem_of_getElem? (i := 45) rfl))) (Or.inr (hw _ (List.mem_of_getElem? (i := 18) rfl))) (by decide) (t := .int) (t' := (.array .int)) (by decide) (by decide)))
  have F73 : Fld Z h59 a1 "com/example/ariadne/ariadne/algo/SplitSearch" "restCount" "I" (.int (0 : Int32)) := F56.other W59 (Or.inr (slot_ne (Or.inl (hw _ (List.mem_of_getElem? (i := 47) rfl))) (Or.inr (hw _ (List.mem_of_getElem? (i := 18) rfl))) (by decide) (t := .int) (t' := (.array .int)) (by decide) (by decide)))
  have V74 : Arv Z h59 a9 k9 .int 3 (L9.map Value.int) (.int 0) := V57.other W59 (Ne.symm n9)
  have K75 : Keep h0 h59 [a1] := K58.wr W59 (Or.inl (List.mem_of_getElem? (i := 0) rfl))
  obtain ⟨T76, h76, X76, e76, W76, st76⟩ := putF X59 hx hZ hown (host := "") (Or.inl (hw _ (List.mem_of_getElem? (i := 19) rfl))) Via.refl e59 F62 E61 (Or.inr ⟨(hw _ (List.mem_of_getElem? (i := 20) rfl)), rfl, hnm⟩) (hw _ (List.mem_of_getElem? (i := 2) rfl)) (ty := (.array .int)) (by decide) rfl rfl (g := (mkF m 28 #[.val (.ref a1), .val (.ref a2), .val (.ref a3), .val (.ref a4), .val (.ref a5), .val (.ref a6), .val .null, .val .null, .val (.ref a9), .unset] [(.ref a6), (.ref a1)])) rfl rfl (hb hby d1_28)
  have N76 := Fr.snoc X76 N59 g_a1
  have F77 : Fld Z h76 a1 "com/example/ariadne/ariadne/algo/SplitSearch" "internalInEnd" "[I" (.ref a6) := F62.same W76
  have E78 : Exa Z h76 a1 "com/example/ariadne/ariadne/algo/SplitSearch" := E61.wr W76
  have F79 : Fld Z h76 a1 "com/example/ariadne/ariadne/algo/SplitSearch" "blocks" "Lcom/example/ariadne/ariadne/algo/Blocks;" .null := F63.other W76 (Or.inr (slot_ne (Or.inr (hw _ (List.mem_of_getElem? (i := 22) rfl))) (Or.inr (hw _ (List.mem_of_getElem? (i := 20) rfl))) (by decide) (t := (.object "com/example/ariadne/ariadne/algo/Blocks")) (t' := (.array .int)) (by decide) (by decide)))
  have F80 : Fld Z h76 a1 "com/example/ariadne/ariadne/algo/SplitSearch" "sets" "Lcom/example/ariadne/ariadne/algo/StepSets;" .null := F64.other W76 (Or.inr (slot_ne (Or.inr (hw _ (List.mem_of_getElem? (i := 24) rfl))) (Or.inr (hw _ (List.mem_of_getElem? (i := 20) rfl))) (by decide) (t := (.object "com/example/ariadne/ariadne/algo/StepSets")) (t' := (.array .int)) (by decide) (by decide)))
  have F81 : Fld Z h76 a1 "com/example/ariadne/ariadne/algo/SplitSearch" "inertCount" "[I" .null := F65.other W76 (Or.inr (slot_ne (Or.inr (hw _ (List.mem_of_getElem? (i := 26) rfl))) (Or.inr (hw _ (List.mem_of_getElem? (i := 20) rfl))) (by decide) (t := (.array .int)) (t' := (.array .int)) (by decide) (by decide)))
  have F82 : Fld Z h76 a1 "com/example/ariadne/ariadne/algo/SplitSearch" "reaching" "[I" .null := F66.other W76 (Or.inr (slot_ne (Or.inr (hw _ (List.mem_of_getElem? (i := 28) rfl))) (Or.inr (hw _ (List.mem_of_getElem? (i := 20) rfl))) (by decide) (t := (.array .int)) (t' := (.array .int)) (by decide) (by decide)))
  have F83 : Fld Z h76 a1 "com/example/ariadne/ariadne/algo/SplitSearch" "rest" "[I" .null := F67.other W76 (Or.inr (slot_ne (Or.inr (hw _ (List.mem_of_getElem? (i := 30) rfl))) (Or.inr (hw _ (List.mem_of_getElem? (i := 20) rfl))) (by decide) (t := (.array .int)) (t' := (.array .int)) (by decide) (by decide)))
  have F84 : Fld Z h76 a1 "com/example/ariadne/ariadne/algo/SplitSearch" "unknownInert" "[I" .null := F68.other W76 (Or.inr (slot_ne (Or.inr (hw _ (List.mem_of_getElem? (i := 32) rfl))) (Or.inr (hw _ (List.mem_of_getElem? (i := 20) rfl))) (by decide) (t := (.array .int)) (t' := (.array .int)) (by decide) (by decide)))
  have F85 : Fld Z h76 a1 "com/example/ariadne/ariadne/algo/SplitSearch" "roundMark" "[I" .null := F69.other W76 (Or.inr (slot_ne (Or.inr (hw _ (List.mem_of_getElem? (i := 34) rfl))) (Or.inr (hw _ (List.mem_of_getElem? (i := 20) rfl))) (by decide) (t := (.array .int)) (t' := (.array .int)) (by decide) (by decide)))
  have F86 : Fld Z h76 a1 "com/example/ariadne/ariadne/algo/SplitSearch" "round" "I" (.int (0 : Int32)) := F70.other W76 (Or.inr (slot_ne (Or.inl (hw _ (List.mem_of_getElem? (i := 41) rfl))) (Or.inr (hw _ (List.mem_of_getElem? (i := 20) rfl))) (by decide) (t := .int) (t' := (.array .int)) (by decide) (by decide)))
  have F87 : Fld Z h76 a1 "com/example/ariadne/ariadne/algo/SplitSearch" "reachCount" "I" (.int (0 : Int32)) := F71.other W76 (Or.inr (slot_ne (Or.inl (hw _ (List.mem_of_getElem? (i := 43) rfl))) (Or.inr (hw _ (List.mem_of_getElem? (i := 20) rfl))) (by decide) (t := .int) (t' := (.array .int)) (by decide) (by decide)))
  have F88 : Fld Z h76 a1 "com/example/ariadne/ariadne/algo/SplitSearch" "firstMarked" "I" (.int (0 : Int32)) := F72.other W76 (Or.inr (slot_ne (Or.inl (hw _ (List.mem_of_getElem? (i := 45) rfl))) (Or.inr (hw _ (List.mem_of_getElem? (i := 20) rfl))) (by decide) (t := .int) (t' := (.array .int)) (by decide) (by decide)))
  have F89 : Fld Z h76 a1 "com/example/ariadne/ariadne/algo/SplitSearch" "restCount" "I" (.int (0 : Int32)) := F73.other W76 (Or.inr (slot_ne (Or.inl (hw _ (List.mem_of_getElem? (i := 47) rfl))) (Or.inr (hw _ (List.mem_of_getElem? (i := 20) rfl))) (by decide) (t := .int) (t' := (.array .int)) (by decide) (by decide)))
  have V90 : Arv Z h76 a9 k9 .int 3 (L9.map Value.int) (.int 0) := V74.other W76 (Ne.symm n9)
  have K91 : Keep h0 h76 [a1] := K75.wr W76 (Or.inl (List.mem_of_getElem? (i := 0) rfl))
  obtain ⟨T92, h92, X92, e92, W92, st92⟩ := putF X76 hx hZ hown (host := "") (Or.inl (hw _ (List.mem_of_getElem? (i := 21) rfl))) Via.refl e76 F79 E78 (Or.inr ⟨(hw _ (List.mem_of_getElem? (i := 22) rfl)), rfl, hnm⟩) (hw _ (List.mem_of_getElem? (i := 2) rfl)) (ty := (.object "com/example/ariadne/ariadne/algo/Blocks")) (by decide) rfl rfl (g := (mkF m 34 #[.val (.ref a1), .val (.ref a2), .val (.ref a3), .val (.ref a4), .val (.ref a5), .val (.ref a6), .val .null, .val .null, .val (.ref a9), .unset] [.null, (.ref a1)])) rfl rfl (hb hby d1_34)
  have N92 := Fr.snoc X92 N76 g_a1
  have F93 : Fld Z h92 a1 "com/example/ariadne/ariadne/algo/SplitSearch" "blocks" "Lcom/example/ariadne/ariadne/algo/Blocks;" .null := F79.same W92
  have E94 : Exa Z h92 a1 "com/example/ariadne/ariadne/algo/SplitSearch" := E78.wr W92
  have F95 : Fld Z h92 a1 "com/example/ariadne/ariadne/algo/SplitSearch" "sets" "Lcom/example/ariadne/ariadne/algo/StepSets;" .null := F80.other W92 (Or.inr (slot_ne (Or.inr (hw _ (List.mem_of_getElem? (i := 24) rfl))) (Or.inr (hw _ (List.mem_of_getElem? (i := 22) rfl))) (by decide) (t := (.object "com/example/ariadne/ariadne/algo/StepSets")) (t' := (.object "com/example/ariadne/ariadne/algo/Blocks")) (by decide) (by decide)))
  have F96 : Fld Z h92 a1 "com/example/ariadne/ariadne/algo/SplitSearch" "inertCount" "[I" .null := F81.other W92 (Or.inr (slot_ne (Or.inr (hw _ (List.mem_of_getElem? (i := 26) rfl))) (Or.inr (hw _ (List.mem_of_getElem? (i := 22) rfl))) (by decide) (t := (.array .int)) (t' := (.object "com/example/ariadne/ariadne/algo/Blocks")) (by decide) (by decide)))
  have F97 : Fld Z h92 a1 "com/example/ariadne/ariadne/algo/SplitSearch" "reaching" "[I" .null := F82.other W92 (Or.inr (slot_ne (Or.inr (hw _ (List.mem_of_getElem? (i := 28) rfl))) (Or.inr (hw _ (List.mem_of_getElem? (i := 22) rfl))) (by decide) (t := (.array .int)) (t' := (.object "com/example/ariadne/ariadne/algo/Blocks")) (by decide) (by decide)))
  have F98 : Fld Z h92 a1 "com/example/ariadne/ariadne/algo/SplitSearch" "rest" "[I" .null := F83.other W92 (Or.inr (slot_ne (Or.inr (hw _ (List.mem_of_getElem? (i := 30) rfl))) (Or.inr (hw _ (List.mem_of_getElem? (i := 22) rfl))) (by decide) (t := (.array .int)) (t' := (.object "com/example/ariadne/ariadne/algo/Blocks")) (by decide) (by decide)))
  have F99 : Fld Z h92 a1 "com/example/ariadne/ariadne/algo/SplitSearch" "unknownInert" "[I" .null := F84.other W92 (Or.inr (slot_ne (Or.inr (hw _ (List.mem_of_getElem? (i := 32) rfl))) (Or.inr (hw _ (List.mem_of_getElem? (i := 22) rfl))) (by decide) (t := (.array .int)) (t' := (.object "com/example/ariadne/ariadne/algo/Blocks")) (by decide) (by decide)))
  have F100 : Fld Z h92 a1 "com/example/ariadne/ariadne/algo/SplitSearch" "roundMark" "[I" .null := F85.other W92 (Or.inr (slot_ne (Or.inr (hw _ (List.mem_of_getElem? (i := 34) rfl))) (Or.inr (hw _ (List.mem_of_getElem? (i := 22) rfl))) (by decide) (t := (.array .int)) (t' := (.object "com/example/ariadne/ariadne/algo/Blocks")) (by decide) (by decide)))
  have F101 : Fld Z h92 a1 "com/example/ariadne/ariadne/algo/SplitSearch" "round" "I" (.int (0 : Int32)) := F86.other W92 (Or.inr (slot_ne (Or.inl (hw _ (List.mem_of_getElem? (i := 41) rfl))) (Or.inr (hw _ (List.mem_of_getElem? (i := 22) rfl))) (by decide) (t := .int) (t' := (.object "com/example/ariadne/ariadne/algo/Blocks")) (by decide) (by decide)))
  have F102 : Fld Z h92 a1 "com/example/ariadne/ariadne/algo/SplitSearch" "reachCount" "I" (.int (0 : Int32)) := F87.other W92 (Or.inr (slot_ne (Or.inl (hw _ (List.mem_of_getElem? (i := 43) rfl))) (Or.inr (hw _ (List.mem_of_getElem? (i := 22) rfl))) (by decide) (t := .int) (t' := (.object "com/example/ariadne/ariadne/algo/Blocks")) (by decide) (by decide)))
  have F103 : Fld Z h92 a1 "com/example/ariadne/ariadne/algo/SplitSearch" "firstMarked" "I" (.int (0 : Int32)) := F88.other W92 (Or.inr (slot_ne (Or.inl (hw _ (List.mem_of_getElem? (i := 45) rfl))) (Or.inr (hw _ (List.mem_of_getElem? (i := 22) rfl))) (by decide) (t := .int) (t' := (.object "com/example/ariadne/ariadne/algo/Blocks")) (by decide) (by decide)))
  have F104 : Fld Z h92 a1 "com/example/ariadne/ariadne/algo/SplitSearch" "restCount" "I" (.int (0 : Int32)) := F89.other W92 (Or.inr (slot_ne (Or.inl (hw _ (List.mem_of_getElem? (i := 47) rfl))) (Or.inr (hw _ (List.mem_of_getElem? (i := 22) rfl))) (by decide) (t := .int) (t' := (.object "com/example/ariadne/ariadne/algo/Blocks")) (by decide) (by decide)))
  have V105 : Arv Z h92 a9 k9 .int 3 (L9.map Value.int) (.int 0) := V90.other W92 (Ne.symm n9)
  have K106 : Keep h0 h92 [a1] := K91.wr W92 (Or.inl (List.mem_of_getElem? (i := 0) rfl))
  obtain ⟨T107, h107, X107, e107, W107, st107⟩ := putF X92 hx hZ hown (host := "") (Or.inl (hw _ (List.mem_of_getElem? (i := 23) rfl))) Via.refl e92 F95 E94 (Or.inr ⟨(hw _ (List.mem_of_getElem? (i := 24) rfl)), rfl, hnm⟩) (hw _ (List.mem_of_getElem? (i := 2) rfl)) (ty := (.object "com/example/ariadne/ariadne/algo/StepSets")) (by decide) rfl rfl (g := (mkF m 40 #[.val (.ref a1), .val (.ref a2), .val (.ref a3), .val (.ref a4), .val (.ref a5), .val (.ref a6), .val .null, .val .null, .val (.ref a9), .unset] [.null, (.ref a1)])) rfl rfl (hb hby d1_40)
  have N107 := Fr.snoc X107 N92 g_a1
  have F108 : Fld Z h107 a1 "com/example/ariadne/ariadne/algo/SplitSearch" "sets" "Lcom/example/ariadne/ariadne/algo/StepSets;" .null := F95.same W107
  have E109 : Exa Z h107 a1 "com/example/ariadne/ariadne/algo/SplitSearch" := E94.wr W107
  have F110 : Fld Z h107 a1 "com/example/ariadne/ariadne/algo/SplitSearch" "inertCount" "[I" .null := F96.other W107 (Or.inr (slot_ne (Or.inr (hw _ (List.mem_of_getElem? (i := 26) rfl))) (Or.inr (hw _ (List.mem_of_getElem? (i := 24) rfl))) (by decide) (t := (.array .int)) (t' := (.object "com/example/ariadne/ariadne/algo/StepSets")) (by decide) (by decide)))
  have F111 : Fld Z h107 a1 "com/example/ariadne/ariadne/algo/SplitSearch" "reaching" "[I" .null := F97.other W107 (Or.inr (slot_ne (Or.inr (hw _ (List.mem_of_getElem? (i := 28) rfl))) (Or.inr (hw _ (List.mem_of_getElem? (i := 24) rfl))) (by decide) (t := (.array .int)) (t' := (.object "com/example/ariadne/ariadne/algo/StepSets")) (by decide) (by decide)))
  have F112 : Fld Z h107 a1 "com/example/ariadne/ariadne/algo/SplitSearch" "rest" "[I" .null := F98.other W107 (Or.inr (slot_ne (Or.inr (hw _ (List.mem_of_getElem? (i := 30) rfl))) (Or.inr (hw _ (List.mem_of_getElem? (i := 24) rfl))) (by decide) (t := (.array .int)) (t' := (.object "com/example/ariadne/ariadne/algo/StepSets")) (by decide) (by decide)))
  have F113 : Fld Z h107 a1 "com/example/ariadne/ariadne/algo/SplitSearch" "unknownInert" "[I" .null := F99.other W107 (Or.inr (slot_ne (Or.inr (hw _ (List.mem_of_getElem? (i := 32) rfl))) (Or.inr (hw _ (List.mem_of_getElem? (i := 24) rfl))) (by decide) (t := (.array .int)) (t' := (.object "com/example/ariadne/ariadne/algo/StepSets")) (by decide) (by decide)))
  have F114 : Fld Z h107 a1 "com/example/ariadne/ariadne/algo/SplitSearch" "roundMark" "[I" .null := F100.other W107 (Or.inr (slot_ne (Or.inr (hw _ (List.mem_of_getElem? (i := 34) rfl))) (Or.inr (hw _ (List.mem_of_getElem? (i := 24) rfl))) (by decide) (t := (.array .int)) (t' := (.object "com/example/ariadne/ariadne/algo/StepSets")) (by decide) (by decide)))
  have F115 : Fld Z h107 a1 "com/example/ariadne/ariadne/algo/SplitSearch" "round" "I" (.int (0 : Int32)) := F101.other W107 (Or.inr (slot_ne (Or.inl (hw _ (List.mem_of_getElem? (i := 41) rfl))) (Or.inr (hw _ (List.mem_of_getElem? (i := 24) rfl))) (by decide) (t := .int) (t' := (.object "com/example/ariadne/ariadne/algo/StepSets")) (by decide) (by decide)))
  have F116 : Fld Z h107 a1 "com/example/ariadne/ariadne/algo/SplitSearch" "reachCount" "I" (.int (0 : Int32)) := F102.other W107 (Or.inr (slot_ne (Or.inl (hw _ (List.mem_of_getElem? (i := 43) rfl))) (Or.inr (hw _ (List.mem_of_getElem? (i := 24) rfl))) (by decide) (t := .int) (t' := (.object "com/example/ariadne/ariadne/algo/StepSets")) (by decide) (by decide)))
  have F117 : Fld Z h107 a1 "com/example/ariadne/ariadne/algo/SplitSearch" "firstMarked" "I" (.int (0 : Int32)) := F103.other W107 (Or.inr (slot_ne (Or.inl (hw _ (List.mem_of_getElem? (i := 45) rfl))) (Or.inr (hw _ (List.mem_of_getElem? (i := 24) rfl))) (by decide) (t := .int) (t' := (.object "com/example/ariadne/ariadne/algo/StepSets")) (by decide) (by decide)))
  have F118 : Fld Z h107 a1 "com/example/ariadne/ariadne/algo/SplitSearch" "restCount" "I" (.int (0 : Int32)) := F104.other W107 (Or.inr (slot_ne (Or.inl (hw _ (List.mem_of_getElem? (i := 47) rfl))) (Or.inr (hw _ (List.mem_of_getElem? (i := 24) rfl))) (by decide) (t := .int) (t' := (.object "com/example/ariadne/ariadne/algo/StepSets")) (by decide) (by decide)))
  have V119 : Arv Z h107 a9 k9 .int 3 (L9.map Value.int) (.int 0) := V105.other W107 (Ne.symm n9)
  have K120 : Keep h0 h107 [a1] := K106.wr W107 (Or.inl (List.mem_of_getElem? (i := 0) rfl))
  obtain ⟨T121, h121, X121, e121, W121, st121⟩ := putF X107 hx hZ hown (host := "") (Or.inl (hw _ (List.mem_of_getElem? (i := 25) rfl))) Via.refl e107 F110 E109 (Or.inr ⟨(hw _ (List.mem_of_getElem? (i := 26) rfl)), rfl, hnm⟩) (hw _ (List.mem_of_getElem? (i := 2) rfl)) (ty := (.array .int)) (by decide) rfl rfl (g := (mkF m 46 #[.val (.ref a1), .val (.ref a2), .val (.ref a3), .val (.ref a4), .val (.ref a5), .val (.ref a6), .val .null, .val .null, .val (.ref a9), .unset] [(.ref a9), (.ref a1)])) rfl rfl (hb hby d1_46)
  have N121 := Fr.snoc X121 N107 g_a1
  have F122 : Fld Z h121 a1 "com/example/ariadne/ariadne/algo/SplitSearch" "inertCount" "[I" (.ref a9) := F110.same W121
  have E123 : Exa Z h121 a1 "com/example/ariadne/ariadne/algo/SplitSearch" := E109.wr W121
  have F124 : Fld Z h121 a1 "com/example/ariadne/ariadne/algo/SplitSearch" "reaching" "[I" .null := F111.other W121 (Or.inr (slot_ne (Or.inr (hw _ (List.mem_of_getElem? (i := 28) rfl))) (Or.inr (hw _ (List.mem_of_getElem? (i := 26) rfl))) (by decide) (t := (.array .int)) (t' := (.array .int)) (by decide) (by decide)))
  have F125 : Fld Z h121 a1 "com/example/ariadne/ariadne/algo/SplitSearch" "rest" "[I" .null := F112.other W121 (Or.inr (slot_ne (Or.inr (hw _ (List.mem_of_getElem? (i := 30) rfl))) (Or.inr (hw _ (List.mem_of_getElem? (i := 26) rfl))) (by decide) (t := (.array .int)) (t' := (.array .int)) (by decide) (by decide)))
  have F126 : Fld Z h121 a1 "com/example/ariadne/ariadne/algo/SplitSearch" "unknownInert" "[I" .null := F113.other W121 (Or.inr (slot_ne (Or.inr (hw _ (List.mem_of_getElem? (i := 32) rfl))) (Or.inr (hw _ (List.mem_of_getElem? (i := 26) rfl))) (by decide) (t := (.array .int)) (t' := (.array .int)) (by decide) (by decide)))
  have F127 : Fld Z h121 a1 "com/example/ariadne/ariadne/algo/SplitSearch" "roundMark" "[I" .null := F114.other W121 (Or.inr (slot_ne (Or.inr (hw _ (List.mem_of_getElem? (i := 34) rfl))) (Or.inr (hw _ (List.mem_of_getElem? (i := 26) rfl))) (by decide) (t := (.array .int)) (t' := (.array .int)) (by decide) (by decide)))
  have F128 : Fld Z h121 a1 "com/example/ariadne/ariadne/algo/SplitSearch" "round" "I" (.int (0 : Int32)) := F115.other W121 (Or.inr (slot_ne (Or.inl (hw _ (List.mem_of_getElem? (i := 41) rfl))) (Or.inr (hw _ (List.mem_of_getElem? (i := 26) rfl))) (by decide) (t := .int) (t' := (.array .int)) (by decide) (by decide)))
  have F129 : Fld Z h121 a1 "com/example/ariadne/ariadne/algo/SplitSearch" "reachCount" "I" (.int (0 : Int32)) := F116.other W121 (Or.inr (slot_ne (Or.inl (hw _ (List.mem_of_getElem? (i := 43) rfl))) (Or.inr (hw _ (List.mem_of_getElem? (i := 26) rfl))) (by decide) (t := .int) (t' := (.array .int)) (by decide) (by decide)))
  have F130 : Fld Z h121 a1 "com/example/ariadne/ariadne/algo/SplitSearch" "firstMarked" "I" (.int (0 : Int32)) := F117.other W121 (Or.inr (slot_ne (Or.inl (hw _ (List.mem_of_getElem? (i := 45) rfl))) (Or.inr (hw _ (List.mem_of_getElem? (i := 26) rfl))) (by decide) (t := .int) (t' := (.array .int)) (by decide) (by decide)))
  have F131 : Fld Z h121 a1 "com/example/ariadne/ariadne/algo/SplitSearch" "restCount" "I" (.int (0 : Int32)) := F118.other W121 (Or.inr (slot_ne (Or.inl (hw _ (List.mem_of_getElem? (i := 47) rfl))) (Or.inr (hw _ (List.mem_of_getElem? (i := 26) rfl))) (by decide) (t := .int) (t' := (.array .int)) (by decide) (by decide)))
  have V132 : Arv Z h121 a9 k9 .int 3 (L9.map Value.int) (.int 0) := V119.other W121 (Ne.symm n9)
  have K133 : Keep h0 h121 [a1] := K120.wr W121 (Or.inl (List.mem_of_getElem? (i := 0) rfl))
  obtain ⟨T134, h134, kc134, X134, e134, Ex134, A134, st134⟩ := newP X121 hx hZ (hw _ (List.mem_of_getElem? (i := 4) rfl)) e121 (g := (mkF m 57 #[.val (.ref a1), .val (.ref a2), .val (.ref a3), .val (.ref a4), .val (.ref a5), .val (.ref a6), .val .null, .val .null, .val (.ref a9), .val (.int (3 : Int32))] [(.int (3 : Int32)), (.ref a1)])) rfl (hb hby d1_57) rfl (by decide) (cap := 3) (by decide) (by decide) (by decide) (by decide)
  obtain ⟨b134, g134⟩ : ∃ z, z = h121.size := ⟨_, rfl⟩
  rw [← g134] at A134 st134
  have sz_b134 : h0.size ≤ b134 := Nat.le_trans K133.1 (Nat.le_of_eq g134.symm)
  have g_b134 : n0 ≤ b134 := Nat.le_trans Z0 sz_b134
  have ne135 : a1 ≠ b134 := Nat.ne_of_lt (Nat.lt_of_lt_of_le E123.lt (Nat.le_of_eq g134.symm))
  have E136 : Exa Z h134 a1 "com/example/ariadne/ariadne/algo/SplitSearch" := E123.ext Ex134
  have F137 : Fld Z h134 a1 "com/example/ariadne/ariadne/algo/SplitSearch" "reaching" "[I" .null := F124.ext Ex134
  have F138 : Fld Z h134 a1 "com/example/ariadne/ariadne/algo/SplitSearch" "rest" "[I" .null := F125.ext Ex134
  have F139 : Fld Z h134 a1 "com/example/ariadne/ariadne/algo/SplitSearch" "unknownInert" "[I" .null := F126.ext Ex134
  have F140 : Fld Z h134 a1 "com/example/ariadne/ariadne/algo/SplitSearch" "roundMark" "[I" .null := F127.ext Ex134
  have F141 : Fld Z h134 a1 "com/example/ariadne/ariadne/algo/SplitSearch" "round" "I" (.int (0 : Int32)) := F128.ext Ex134
  have F142 : Fld Z h134 a1 "com/example/ariadne/ariadne/algo/SplitSearch" "reachCount" "I" (.int (0 : Int32)) := F129.ext Ex134
  have F143 : Fld Z h134 a1 "com/example/ariadne/ariadne/algo/SplitSearch" "firstMarked" "I" (.int (0 : Int32)) := F130.ext Ex134
  have F144 : Fld Z h134 a1 "com/example/ariadne/ariadne/algo/SplitSearch" "restCount" "I" (.int (0 : Int32)) := F131.ext Ex134
  have V145 : Arv Z h134 b134 kc134 .int (3 : Int32) [] (defaultValue .int) := Arv.new A134 (by decide)
  have K146 : Keep h0 h134 [a1] := K133.ext Ex134
  have V147 : Arv Z h134 b134 kc134 .int (3 : Int32) (([0, 0, 0] : List Int32).map Value.int) (.int 0) := V145.pad (pad_rep [] _ 3)
  obtain ⟨T148, h148, X148, e148, W148, st148⟩ := putF X134 hx hZ hown (host := "") (Or.inl (hw _ (List.mem_of_getElem? (i := 27) rfl))) Via.refl e134 F137 E136 (Or.inr ⟨(hw _ (List.mem_of_getElem? (i := 28) rfl)), rfl, hnm⟩) (hw _ (List.mem_of_getElem? (i := 2) rfl)) (ty := (.array .int)) (by decide) rfl rfl (g := (mkF m 59 #[.val (.ref a1), .val (.ref a2), .val (.ref a3), .val (.ref a4), .val (.ref a5), .val (.ref a6), .val .null, .val .null, .val (.ref a9), .val (.int (3 : Int32))] [(.ref b134), (.ref a1)])) rfl rfl (hb hby d1_59)
  have N148 := Fr.snoc X148 N121 g_a1
  have F149 : Fld Z h148 a1 "com/example/ariadne/ariadne/algo/SplitSearch" "reaching" "[I" (.ref b134) := F137.same W148
  have E150 : Exa Z h148 a1 "com/example/ariadne/ariadne/algo/SplitSearch" := E136.wr W148
  have F151 : Fld Z h148 a1 "com/example/ariadne/ariadne/algo/SplitSearch" "rest" "[I" .null := F138.other W148 (Or.inr (slot_ne (Or.inr (hw _ (List.mem_of_getElem? (i := 30) rfl))) (Or.inr (hw _ (List.mem_of_getElem? (i := 28) rfl))) (by decide) (t := (.array .int)) (t' := (.array .int)) (by decide) (by decide)))
  have F152 : Fld Z h148 a1 "com/example/ariadne/ariadne/algo/SplitSearch" "unknownInert" "[I" .null := F139.other W148 (Or.inr (slot_ne (Or.inr (hw _ (List.mem_of_getElem? (i := 32) rfl))) (Or.inr (hw _ (List.mem_of_getElem? (i := 28) rfl))) (by decide) (t := (.array .int)) (t' := (.array .int)) (by decide) (by decide)))
  have F153 : Fld Z h148 a1 "com/example/ariadne/ariadne/algo/SplitSearch" "roundMark" "[I" .null := F140.other W148 (Or.inr (slot_ne (Or.inr (hw _ (List.mem_of_getElem? (i := 34) rfl))) (Or.inr (hw _ (List.mem_of_getElem? (i := 28) rfl))) (by decide) (t := (.array .int)) (t' := (.array .int)) (by decide) (by decide)))
  have F154 : Fld Z h148 a1 "com/example/ariadne/ariadne/algo/SplitSearch" "round" "I" (.int (0 : Int32)) := F141.other W148 (Or.inr (slot_ne (Or.inl (hw _ (List.mem_of_getElem? (i := 41) rfl))) (Or.inr (hw _ (List.mem_of_getElem? (i := 28) rfl))) (by decide) (t := .int) (t' := (.array .int)) (by decide) (by decide)))
  have F155 : Fld Z h148 a1 "com/example/ariadne/ariadne/algo/SplitSearch" "reachCount" "I" (.int (0 : Int32)) := F142.other W148 (Or.inr (slot_ne (Or.inl (hw _ (List.mem_of_getElem? (i := 43) rfl))) (Or.inr (hw _ (List.mem_of_getElem? (i := 28) rfl))) (by decide) (t := .int) (t' := (.array .int)) (by decide) (by decide)))
  have F156 : Fld Z h148 a1 "com/example/ariadne/ariadne/algo/SplitSearch" "firstMarked" "I" (.int (0 : Int32)) := F143.other W148 (Or.inr (slot_ne (Or.inl (hw _ (List.mem_of_getElem? (i := 45) rfl))) (Or.inr (hw _ (List.mem_of_getElem? (i := 28) rfl))) (by decide) (t := .int) (t' := (.array .int)) (by decide) (by decide)))
  have F157 : Fld Z h148 a1 "com/example/ariadne/ariadne/algo/SplitSearch" "restCount" "I" (.int (0 : Int32)) := F144.other W148 (Or.inr (slot_ne (Or.inl (hw _ (List.mem_of_getElem? (i := 47) rfl))) (Or.inr (hw _ (List.mem_of_getElem? (i := 28) rfl))) (by decide) (t := .int) (t' := (.array .int)) (by decide) (by decide)))
  have V158 : Arv Z h148 b134 kc134 .int (3 : Int32) (([0, 0, 0] : List Int32).map Value.int) (.int 0) := V147.other W148 (Ne.symm ne135)
  have K159 : Keep h0 h148 [a1] := K146.wr W148 (Or.inl (List.mem_of_getElem? (i := 0) rfl))
  obtain ⟨T160, h160, kc160, X160, e160, Ex160, A160, st160⟩ := newP X148 hx hZ (hw _ (List.mem_of_getElem? (i := 4) rfl)) e148 (g := (mkF m 65 #[.val (.ref a1), .val (.ref a2), .val (.ref a3), .val (.ref a4), .val (.ref a5), .val (.ref a6), .val .null, .val .null, .val (.ref a9), .val (.int (3 : Int32))] [(.int (3 : Int32)), (.ref a1)])) rfl (hb hby d1_65) rfl (by decide) (cap := 3) (by decide) (by decide) (by decide) (by decide)
  obtain ⟨b160, g160⟩ : ∃ z, z = h148.size := ⟨_, rfl⟩
  rw [← g160] at A160 st160
  have sz_b160 : h0.size ≤ b160 := Nat.le_trans K159.1 (Nat.le_of_eq g160.symm)
  have g_b160 : n0 ≤ b160 := Nat.le_trans Z0 sz_b160
  have ne161 : a1 ≠ b160 := Nat.ne_of_lt (Nat.lt_of_lt_of_le E150.lt (Nat.le_of_eq g160.symm))
  have ne162 : b134 ≠ b160 := Nat.ne_of_lt (Nat.lt_of_lt_of_le V158.lt (Nat.le_of_eq g160.symm))
  have E163 : Exa Z h160 a1 "com/example/ariadne/ariadne/algo/SplitSearch" := E150.ext Ex160
  have F164 : Fld Z h160 a1 "com/example/ariadne/ariadne/algo/SplitSearch" "reaching" "[I" (.ref b134) := F149.ext Ex160
  have F165 : Fld Z h160 a1 "com/example/ariadne/ariadne/algo/SplitSearch" "rest" "[I" .null := F151.ext Ex160
  have F166 : Fld Z h160 a1 "com/example/ariadne/ariadne/algo/SplitSearch" "unknownInert" "[I" .null := F152.ext Ex160
  have F167 : Fld Z h160 a1 "com/example/ariadne/ariadne/algo/SplitSearch" "roundMark" "[I" .null := F153.ext Ex160
  have F168 : Fld Z h160 a1 "com/example/ariadne/ariadne/algo/SplitSearch" "round" "I" (.int (0 : Int32)) := F154.ext Ex160
  have F169 : Fld Z h160 a1 "com/example/ariadne/ariadne/algo/SplitSearch" "reachCount" "I" (.int (0 : Int32)) := F155.ext Ex160
  have F170 : Fld Z h160 a1 "com/example/ariadne/ariadne/algo/SplitSearch" "firstMarked" "I" (.int (0 : Int32)) := F156.ext Ex160
  have F171 : Fld Z h160 a1 "com/example/ariadne/ariadne/algo/SplitSearch" "restCount" "I" (.int (0 : Int32)) := F157.ext Ex160
  have V172 : Arv Z h160 b134 kc134 .int (3 : Int32) (([0, 0, 0] : List Int32).map Value.int) (.int 0) := V158.ext Ex160
  have V173 : Arv Z h160 b160 kc160 .int (3 : Int32) [] (defaultValue .int) := Arv.new A160 (by decide)
  have K174 : Keep h0 h160 [a1] := K159.ext Ex160
  have V175 : Arv Z h160 b160 kc160 .int (3 : Int32) (([0, 0, 0] : List Int32).map Value.int) (.int 0) := V173.pad (pad_rep [] _ 3)
  obtain ⟨T176, h176, X176, e176, W176, st176⟩ := putF X160 hx hZ hown (host := "") (Or.inl (hw _ (List.mem_of_getElem? (i := 29) rfl))) Via.refl e160 F165 E163 (Or.inr ⟨(hw _ (List.mem_of_getElem? (i := 30) rfl)), rfl, hnm⟩) (hw _ (List.mem_of_getElem? (i := 2) rfl)) (ty := (.array .int)) (by decide) rfl rfl (g := (mkF m 67 #[.val (.ref a1), .val (.ref a2), .val (.ref a3), .val (.ref a4), .val (.ref a5), .val (.ref a6), .val .null, .val .null, .val (.ref a9), .val (.int (3 : Int32))] [(.ref b160), (.ref a1)])) rfl rfl (hb hby d1_67)
  have N176 := Fr.snoc X176 N148 g_a1
  have F177 : Fld Z h176 a1 "com/example/ariadne/ariadne/algo/SplitSearch" "rest" "[I" (.ref b160) := F165.same W176
  have E178 : Exa Z h176 a1 "com/example/ariadne/ariadne/algo/SplitSearch" := E163.wr W176
  have F179 : Fld Z h176 a1 "com/example/ariadne/ariadne/algo/SplitSearch" "reaching" "[I" (.ref b134) := F164.other W176 (Or.inr (slot_ne (Or.inr (hw _ (List.mem_of_getElem? (i := 28) rfl))) (Or.inr (hw _ (List.mem_of_getElem? (i := 30) rfl))) (by decide) (t := (.array .int)) (t' := (.array .int)) (by decide) (by decide)))
  have F180 : Fld Z h176 a1 "com/example/ariadne/ariadne/algo/SplitSearch" "unknownInert" "[I" .null := F166.other W176 (Or.inr (slot_ne (Or.inr (hw _ (List.mem_of_getElem? (i := 32) rfl))) (Or.inr (hw _ (List.mem_of_getElem? (i := 30) rfl))) (by decide) (t := (.array .int)) (t' := (.array .int)) (by decide) (by decide)))
  have F181 : Fld Z h176 a1 "com/example/ariadne/ariadne/algo/SplitSearch" "roundMark" "[I" .null := F167.other W176 (Or.inr (slot_ne (Or.inr (hw _ (List.mem_of_getElem? (i := 34) rfl))) (Or.inr (hw _ (List.mem_of_getElem? (i := 30) rfl))) (by decide) (t := (.array .int)) (t' := (.array .int)) (by decide) (by decide)))
  have F182 : Fld Z h176 a1 "com/example/ariadne/ariadne/algo/SplitSearch" "round" "I" (.int (0 : Int32)) := F168.other W176 (Or.inr (slot_ne (Or.inl (hw _ (List.mem_of_getElem? (i := 41) rfl))) (Or.inr (hw _ (List.mem_of_getElem? (i := 30) rfl))) (by decide) (t := .int) (t' := (.array .int)) (by decide) (by decide)))
  have F183 : Fld Z h176 a1 "com/example/ariadne/ariadne/algo/SplitSearch" "reachCount" "I" (.int (0 : Int32)) := F169.other W176 (Or.inr (slot_ne (Or.inl (hw _ (List.mem_of_getElem? (i := 43) rfl))) (Or.inr (hw _ (List.mem_of_getElem? (i := 30) rfl))) (by decide) (t := .int) (t' := (.array .int)) (by decide) (by decide)))
  have F184 : Fld Z h176 a1 "com/example/ariadne/ariadne/algo/SplitSearch" "firstMarked" "I" (.int (0 : Int32)) := F170.other W176 (Or.inr (slot_ne (Or.inl (hw _ (List.mem_of_getElem? (i := 45) rfl))) (Or.inr (hw _ (List.mem_of_getElem? (i := 30) rfl))) (by decide) (t := .int) (t' := (.array .int)) (by decide) (by decide)))
  have F185 : Fld Z h176 a1 "com/example/ariadne/ariadne/algo/SplitSearch" "restCount" "I" (.int (0 : Int32)) := F171.other W176 (Or.inr (slot_ne (Or.inl (hw _ (List.mem_of_getElem? (i := 47) rfl))) (Or.inr (hw _ (List.mem_of_getElem? (i := 30) rfl))) (by decide) (t := .int) (t' := (.array .int)) (by decide) (by decide)))
  have V186 : Arv Z h176 b134 kc134 .int (3 : Int32) (([0, 0, 0] : List Int32).map Value.int) (.int 0) := V172.other W176 (Ne.symm ne135)
  have V187 : Arv Z h176 b160 kc160 .int (3 : Int32) (([0, 0, 0] : List Int32).map Value.int) (.int 0) := V175.other W176 (Ne.symm ne161)
  have K188 : Keep h0 h176 [a1] := K174.wr W176 (Or.inl (List.mem_of_getElem? (i := 0) rfl))
  obtain ⟨T189, h189, kc189, X189, e189, Ex189, A189, st189⟩ := newP X176 hx hZ (hw _ (List.mem_of_getElem? (i := 4) rfl)) e176 (g := (mkF m 73 #[.val (.ref a1), .val (.ref a2), .val (.ref a3), .val (.ref a4), .val (.ref a5), .val (.ref a6), .val .null, .val .null, .val (.ref a9), .val (.int (3 : Int32))] [(.int (3 : Int32)), (.ref a1)])) rfl (hb hby d1_73) rfl (by decide) (cap := 3) (by decide) (by decide) (by decide) (by decide)
  obtain ⟨b189, g189⟩ : ∃ z, z = h176.size := ⟨_, rfl⟩
  rw [← g189] at A189 st189
  have sz_b189 : h0.size ≤ b189 := Nat.le_trans K188.1 (Nat.le_of_eq g189.symm)
  have g_b189 : n0 ≤ b189 := Nat.le_trans Z0 sz_b189
  have ne190 : a1 ≠ b189 := Nat.ne_of_lt (Nat.lt_of_lt_of_le E178.lt (Nat.le_of_eq g189.symm))
  have ne191 : b134 ≠ b189 := Nat.ne_of_lt (Nat.lt_of_lt_of_le V186.lt (Nat.le_of_eq g189.symm))
  have ne192 : b160 ≠ b189 := Nat.ne_of_lt (Nat.lt_of_lt_of_le V187.lt (Nat.le_of_eq g189.symm))
  have E193 : Exa Z h189 a1 "com/example/ariadne/ariadne/algo/SplitSearch" := E178.ext Ex189
  have F194 : Fld Z h189 a1 "com/example/ariadne/ariadne/algo/SplitSearch" "reaching" "[I" (.ref b134) := F179.ext Ex189
  have F195 : Fld Z h189 a1 "com/example/ariadne/ariadne/algo/SplitSearch" "unknownInert" "[I" .null := F180.ext Ex189
  have F196 : Fld Z h189 a1 "com/example/ariadne/ariadne/algo/SplitSearch" "roundMark" "[I" .null := F181.ext Ex189
  have F197 : Fld Z h189 a1 "com/example/ariadne/ariadne/algo/SplitSearch" "round" "I" (.int (0 : Int32)) := F182.ext Ex189
  have F198 : Fld Z h189 a1 "com/example/ariadne/ariadne/algo/SplitSearch" "reachCount" "I" (.int (0 : Int32)) := F183.ext Ex189
  have F199 : Fld Z h189 a1 "com/example/ariadne/ariadne/algo/SplitSearch" "firstMarked" "I" (.int (0 : Int32)) := F184.ext Ex189
  have F200 : Fld Z h189 a1 "com/example/ariadne/ariadne/algo/SplitSearch" "restCount" "I" (.int (0 : Int32)) := F185.ext Ex189
  have V201 : Arv Z h189 b134 kc134 .int (3 : Int32) (([0, 0, 0] : List Int32).map Value.int) (.int 0) := V186.ext Ex189
  have V202 : Arv Z h189 b160 kc160 .int (3 : Int32) (([0, 0, 0] : List Int32).map Value.int) (.int 0) := V187.ext Ex189
  have V203 : Arv Z h189 b189 kc189 .int (3 : Int32) [] (defaultValue .int) := Arv.new A189 (by decide)
  have K204 : Keep h0 h189 [a1] := K188.ext Ex189
  have V205 : Arv Z h189 b189 kc189 .int (3 : Int32) (([0, 0, 0] : List Int32).map Value.int) (.int 0) := V203.pad (pad_rep [] _ 3)
  obtain ⟨T206, h206, X206, e206, W206, st206⟩ := putF X189 hx hZ hown (host := "") (Or.inl (hw _ (List.mem_of_getElem? (i := 31) rfl))) Via.refl e189 F195 E193 (Or.inr ⟨(hw _ (List.mem_of_getElem? (i := 32) rfl)), rfl, hnm⟩) (hw _ (List.mem_of_getElem? (i := 2) rfl)) (ty := (.array .int)) (by decide) rfl rfl (g := (mkF m 75 #[.val (.ref a1), .val (.ref a2), .val (.ref a3), .val (.ref a4), .val (.ref a5), .val (.ref a6), .val .null, .val .null, .val (.ref a9), .val (.int (3 : Int32))] [(.ref b189), (.ref a1)])) rfl rfl (hb hby d1_75)
  have N206 := Fr.snoc X206 N176 g_a1
  have F207 : Fld Z h206 a1 "com/example/ariadne/ariadne/algo/SplitSearch" "unknownInert" "[I" (.ref b189) := F195.same W206
  have E208 : Exa Z h206 a1 "com/example/ariadne/ariadne/algo/SplitSearch" := E193.wr W206
  have F209 : Fld Z h206 a1 "com/example/ariadne/ariadne/algo/SplitSearch" "reaching" "[I" (.ref b134) := F194.other W206 (Or.inr (slot_ne (Or.inr (hw _ (List.mem_of_getElem? (i := 28) rfl))) (Or.inr (hw _ (List.mem_of_getElem? (i := 32) rfl))) (by decide) (t := (.array .int)) (t' := (.array .int)) (by decide) (by decide)))
  have F210 : Fld Z h206 a1 "com/example/ariadne/ariadne/algo/SplitSearch" "roundMark" "[I" .null := F196.other W206 (Or.inr (slot_ne (Or.inr (hw _ (List.mem_of_getElem? (i := 34) rfl))) (Or.inr (hw _ (List.mem_of_getElem? (i := 32) rfl))) (by decide) (t := (.array .int)) (t' := (.array .int)) (by decide) (by decide)))
  have F211 : Fld Z h206 a1 "com/example/ariadne/ariadne/algo/SplitSearch" "round" "I" (.int (0 : Int32)) := F197.other W206 (Or.inr (slot_ne (Or.inl (hw _ (List.mem_of_getElem? (i := 41) rfl))) (Or.inr (hw _ (List.mem_of_getElem? (i := 32) rfl))) (by decide) (t := .int) (t' := (.array .int)) (by decide) (by decide)))
  have F212 : Fld Z h206 a1 "com/example/ariadne/ariadne/algo/SplitSearch" "reachCount" "I" (.int (0 : Int32)) := F198.other W206 (Or.inr (slot_ne (Or.inl (hw _ (List.mem_of_getElem? (i := 43) rfl))) (Or.inr (hw _ (List.mem_of_getElem? (i := 32) rfl))) (by decide) (t := .int) (t' := (.array .int)) (by decide) (by decide)))
  have F213 : Fld Z h206 a1 "com/example/ariadne/ariadne/algo/SplitSearch" "firstMarked" "I" (.int (0 : Int32)) := F199.other W206 (Or.inr (slot_ne (Or.inl (hw _ (List.mem_of_getElem? (i := 45) rfl))) (Or.inr (hw _ (List.mem_of_getElem? (i := 32) rfl))) (by decide) (t := .int) (t' := (.array .int)) (by decide) (by decide)))
  have F214 : Fld Z h206 a1 "com/example/ariadne/ariadne/algo/SplitSearch" "restCount" "I" (.int (0 : Int32)) := F200.other W206 (Or.inr (slot_ne (Or.inl (hw _ (List.mem_of_getElem? (i := 47) rfl))) (Or.inr (hw _ (List.mem_of_getElem? (i := 32) rfl))) (by decide) (t := .int) (t' := (.array .int)) (by decide) (by decide)))
  have V215 : Arv Z h206 b134 kc134 .int (3 : Int32) (([0, 0, 0] : List Int32).map Value.int) (.int 0) := V201.other W206 (Ne.symm ne135)
  have V216 : Arv Z h206 b160 kc160 .int (3 : Int32) (([0, 0, 0] : List Int32).map Value.int) (.int 0) := V202.other W206 (Ne.symm ne161)
  have V217 : Arv Z h206 b189 kc189 .int (3 : Int32) (([0, 0, 0] : List Int32).map Value.int) (.int 0) := V205.other W206 (Ne.symm ne190)
  have K218 : Keep h0 h206 [a1] := K204.wr W206 (Or.inl (List.mem_of_getElem? (i := 0) rfl))
  obtain ⟨T219, h219, kc219, X219, e219, Ex219, A219, st219⟩ := newP X206 hx hZ (hw _ (List.mem_of_getElem? (i := 4) rfl)) e206 (g := (mkF m 81 #[.val (.ref a1), .val (.ref a2), .val (.ref a3), .val (.ref a4), .val (.ref a5), .val (.ref a6), .val .null, .val .null, .val (.ref a9), .val (.int (3 : Int32))] [(.int (3 : Int32)), (.ref a1)])) rfl (hb hby d1_81) rfl (by decide) (cap := 3) (by decide) (by decide) (by decide) (by decide)
  obtain ⟨b219, g219⟩ : ∃ z, z = h206.size := ⟨_, rfl⟩
  rw [← g219] at A219 st219
  have sz_b219 : h0.size ≤ b219 := Nat.le_trans K218.1 (Nat.le_of_eq g219.symm)
  have g_b219 : n0 ≤ b219 := Nat.le_trans Z0 sz_b219
  have ne220 : a1 ≠ b219 := Nat.ne_of_lt (Nat.lt_of_lt_of_le E208.lt (Nat.le_of_eq g219.symm))
  have ne221 : b134 ≠ b219 := Nat.ne_of_lt (Nat.lt_of_lt_of_le V215.lt (Nat.le_of_eq g219.symm))
  have ne222 : b160 ≠ b219 := Nat.ne_of_lt (Nat.lt_of_lt_of_le V216.lt (Nat.le_of_eq g219.symm))
  have ne223 : b189 ≠ b219 := Nat.ne_of_lt (Nat.lt_of_lt_of_le V217.lt (Nat.le_of_eq g219.symm))
  have E224 : Exa Z h219 a1 "com/example/ariadne/ariadne/algo/SplitSearch" := E208.ext Ex219
  have F225 : Fld Z h219 a1 "com/example/ariadne/ariadne/algo/SplitSearch" "reaching" "[I" (.ref b134) := F209.ext Ex219
  have F226 : Fld Z h219 a1 "com/example/ariadne/ariadne/algo/SplitSearch" "roundMark" "[I" .null := F210.ext Ex219
  have F227 : Fld Z h219 a1 "com/example/ariadne/ariadne/algo/SplitSearch" "round" "I" (.int (0 : Int32)) := F211.ext Ex219
  have F228 : Fld Z h219 a1 "com/example/ariadne/ariadne/algo/SplitSearch" "reachCount" "I" (.int (0 : Int32)) := F212.ext Ex219
  have F229 : Fld Z h219 a1 "com/example/ariadne/ariadne/algo/SplitSearch" "firstMarked" "I" (.int (0 : Int32)) := F213.ext Ex219
  have F230 : Fld Z h219 a1 "com/example/ariadne/ariadne/algo/SplitSearch" "restCount" "I" (.int (0 : Int32)) := F214.ext Ex219
  have V231 : Arv Z h219 b134 kc134 .int (3 : Int32) (([0, 0, 0] : List Int32).map Value.int) (.int 0) := V215.ext Ex219
  have V232 : Arv Z h219 b160 kc160 .int (3 : Int32) (([0, 0, 0] : List Int32).map Value.int) (.int 0) := V216.ext Ex219
  have V233 : Arv Z h219 b189 kc189 .int (3 : Int32) (([0, 0, 0] : List Int32).map Value.int) (.int 0) := V217.ext Ex219
  have V234 : Arv Z h219 b219 kc219 .int (3 : Int32) [] (defaultValue .int) := Arv.new A219 (by decide)
  have K235 : Keep h0 h219 [a1] := K218.ext Ex219
  have V236 : Arv Z h219 b219 kc219 .int (3 : Int32) (([0, 0, 0] : List Int32).map Value.int) (.int 0) := V234.pad (pad_rep [] _ 3)
  obtain ⟨T237, h237, X237, e237, W237, st237⟩ := putF X219 hx hZ hown (host := "") (Or.inl (hw _ (List.mem_of_getElem? (i := 33) rfl))) Via.refl e219 F226 E224 (Or.inr ⟨(hw _ (List.mem_of_getElem? (i := 34) rfl)), rfl, hnm⟩) (hw _ (List.mem_of_getElem? (i := 2) rfl)) (ty := (.array .int)) (by decide) rfl rfl (g := (mkF m 83 #[.val (.ref a1), .val (.ref a2), .val (.ref a3), .val (.ref a4), .val (.ref a5), .val (.ref a6), .val .null, .val .null, .val (.ref a9), .val (.int (3 : Int32))] [(.ref b219), (.ref a1)])) rfl rfl (hb hby d1_83)
  have N237 := Fr.snoc X237 N206 g_a1
  have F238 : Fld Z h237 a1 "com/example/ariadne/ariadne/algo/SplitSearch" "roundMark" "[I" (.ref b219) := F226.same W237
  have E239 : Exa Z h237 a1 "com/example/ariadne/ariadne/algo/SplitSearch" := E224.wr W237
  have F240 : Fld Z h237 a1 "com/example/ariadne/ariadne/algo/SplitSearch" "reaching" "[I" (.ref b134) := F225.other W237 (Or.inr (slot_ne (Or.inr (hw _ (List.mem_of_getElem? (i := 28) rfl))) (Or.inr (hw _ (List.mem_of_getElem? (i := 34) rfl))) (by decide) (t := (.array .int)) (t' := (.array .int)) (by decide) (by decide)))
  have F241 : Fld Z h237 a1 "com/example/ariadne/ariadne/algo/SplitSearch" "round" "I" (.int (0 : Int32)) := F227.other W237 (Or.inr (slot_ne (Or.inl (hw _ (List.mem_of_getElem? (i := 41) rfl))) (Or.inr (hw _ (List.mem_of_getElem? (i := 34) rfl))) (by decide) (t := .int) (t' := (.array .int)) (by decide) (by decide)))
  have F242 : Fld Z h237 a1 "com/example/ariadne/ariadne/algo/SplitSearch" "reachCount" "I" (.int (0 : Int32)) := F228.other W237 (Or.inr (slot_ne (Or.inl (hw _ (List.mem_of_getElem? (i := 43) rfl))) (Or.inr (hw _ (List.mem_of_getElem? (i := 34) rfl))) (by decide) (t := .int) (t' := (.array .int)) (by decide) (by decide)))
  have F243 : Fld Z h237 a1 "com/example/ariadne/ariadne/algo/SplitSearch" "firstMarked" "I" (.int (0 : Int32)) := F229.other W237 (Or.inr (slot_ne (Or.inl (hw _ (List.mem_of_getElem? (i := 45) rfl))) (Or.inr (hw _ (List.mem_of_getElem? (i := 34) rfl))) (by decide) (t := .int) (t' := (.array .int)) (by decide) (by decide)))
  have F244 : Fld Z h237 a1 "com/example/ariadne/ariadne/algo/SplitSearch" "restCount" "I" (.int (0 : Int32)) := F230.other W237 (Or.inr (slot_ne (Or.inl (hw _ (List.mem_of_getElem? (i := 47) rfl))) (Or.inr (hw _ (List.mem_of_getElem? (i := 34) rfl))) (by decide) (t := .int) (t' := (.array .int)) (by decide) (by decide)))
  have V245 : Arv Z h237 b134 kc134 .int (3 : Int32) (([0, 0, 0] : List Int32).map Value.int) (.int 0) := V231.other W237 (Ne.symm ne135)
  have V246 : Arv Z h237 b160 kc160 .int (3 : Int32) (([0, 0, 0] : List Int32).map Value.int) (.int 0) := V232.other W237 (Ne.symm ne161)
  have V247 : Arv Z h237 b189 kc189 .int (3 : Int32) (([0, 0, 0] : List Int32).map Value.int) (.int 0) := V233.other W237 (Ne.symm ne190)
  have V248 : Arv Z h237 b219 kc219 .int (3 : Int32) (([0, 0, 0] : List Int32).map Value.int) (.int 0) := V236.other W237 (Ne.symm ne220)
  have K249 : Keep h0 h237 [a1] := K235.wr W237 (Or.inl (List.mem_of_getElem? (i := 0) rfl))
  have k251 : ∀ t, Steps p.tables e below (T237.setTop (mkF m 86 #[.val (.ref a1), .val (.ref a2), .val (.ref a3), .val (.ref a4), .val (.ref a5), .val (.ref a6), .val .null, .val .null, .val (.ref a9), .val (.int (3 : Int32))] [])) t → Steps p.tables e below (s₁.setTop (entryFrame m #[(.ref a1), (.ref a2), (.ref a3), (.ref a4), (.ref a5), (.ref a6), .null, .null, (.ref a9)] 10)) t := fun t k => k0 t (by
    show Steps p.tables e below (s₁.setTop (mkF m 0 #[.val (.ref a1), .val (.ref a2), .val (.ref a3), .val (.ref a4), .val (.ref a5), .val (.ref a6), .val .null, .val .null, .val (.ref a9), .unset] [])) _
    refine XS.aloadN X0.here hx rfl (hb hby d1_0) rfl rfl ?_
    show Steps p.tables e below (s₁.setTop (mkF m 1 #[.val (.ref a1), .val (.ref a2), .val (.ref a3), .val (.ref a4), .val (.ref a5), .val (.ref a6), .val .null, .val .null, .val (.ref a9), .unset] [(.ref a1)])) _
    refine st1 _ ?_
    show Steps p.tables e below (T1.setTop (mkF m 4 #[.val (.ref a1), .val (.ref a2), .val (.ref a3), .val (.ref a4), .val (.ref a5), .val (.ref a6), .val .null, .val .null, .val (.ref a9), .unset] [])) _
    refine XS.aloadN X1.here hx rfl (hb hby d1_4) rfl rfl ?_
    show Steps p.tables e below (T1.setTop (mkF m 5 #[.val (.ref a1), .val (.ref a2), .val (.ref a3), .val (.ref a4), .val (.ref a5), .val (.ref a6), .val .null, .val .null, .val (.ref a9), .unset] [(.ref a1)])) _
    refine XS.aloadN X1.here hx rfl (hb hby d1_5) rfl rfl ?_
    show Steps p.tables e below (T1.setTop (mkF m 6 #[.val (.ref a1), .val (.ref a2), .val (.ref a3), .val (.ref a4), .val (.ref a5), .val (.ref a6), .val .null, .val .null, .val (.ref a9), .unset] [(.ref a2), (.ref a1)])) _
    refine st2 _ ?_
    show Steps p.tables e below (T2.setTop (mkF m 9 #[.val (.ref a1), .val (.ref a2), .val (.ref a3), .val (.ref a4), .val (.ref a5), .val (.ref a6), .val .null, .val .null, .val (.ref a9), .unset] [])) _
    refine XS.aloadN X2.here hx rfl (hb hby d1_9) rfl rfl ?_
    show Steps p.tables e below (T2.setTop (mkF m 10 #[.val (.ref a1), .val (.ref a2), .val (.ref a3), .val (.ref a4), .val (.ref a5), .val (.ref a6), .val .null, .val .null, .val (.ref a9), .unset] [(.ref a1)])) _
    refine XS.aloadN X2.here hx rfl (hb hby d1_10) rfl rfl ?_
    show Steps p.tables e below (T2.setTop (mkF m 11 #[.val (.ref a1), .val (.ref a2), .val (.ref a3), .val (.ref a4), .val (.ref a5), .val (.ref a6), .val .null, .val .null, .val (.ref a9), .unset] [(.ref a3), (.ref a1)])) _
    refine st22 _ ?_
    show Steps p.tables e below (T22.setTop (mkF m 14 #[.val (.ref a1), .val (.ref a2), .val (.ref a3), .val (.ref a4), .val (.ref a5), .val (.ref a6), .val .null, .val .null, .val (.ref a9), .unset] [])) _
    refine XS.aloadN X22.here hx rfl (hb hby d1_14) rfl rfl ?_
    show Steps p.tables e below (T22.setTop (mkF m 15 #[.val (.ref a1), .val (.ref a2), .val (.ref a3), .val (.ref a4), .val (.ref a5), .val (.ref a6), .val .null, .val .null, .val (.ref a9), .unset] [(.ref a1)])) _
    refine XS.aloadN X22.here hx rfl (hb hby d1_15) rfl rfl ?_
    show Steps p.tables e below (T22.setTop (mkF m 16 #[.val (.ref a1), .val (.ref a2), .val (.ref a3), .val (.ref a4), .val (.ref a5), .val (.ref a6), .val .null, .val .null, .val (.ref a9), .unset] [(.ref a4), (.ref a1)])) _
    refine st41 _ ?_
    show Steps p.tables e below (T41.setTop (mkF m 19 #[.val (.ref a1), .val (.ref a2), .val (.ref a3), .val (.ref a4), .val (.ref a5), .val (.ref a6), .val .null, .val .null, .val (.ref a9), .unset] [])) _
    refine XS.aloadN X41.here hx rfl (hb hby d1_19) rfl rfl ?_
    show Steps p.tables e below (T41.setTop (mkF m 20 #[.val (.ref a1), .val (.ref a2), .val (.ref a3), .val (.ref a4), .val (.ref a5), .val (.ref a6), .val .null, .val .null, .val (.ref a9), .unset] [(.ref a1)])) _
    refine XS.aload X41.here hx rfl (hb hby d1_20) rfl rfl ?_
    show Steps p.tables e below (T41.setTop (mkF m 22 #[.val (.ref a1), .val (.ref a2), .val (.ref a3), .val (.ref a4), .val (.ref a5), .val (.ref a6), .val .null, .val .null, .val (.ref a9), .unset] [(.ref a5), (.ref a1)])) _
    refine st59 _ ?_
    show Steps p.tables e below (T59.setTop (mkF m 25 #[.val (.ref a1), .val (.ref a2), .val (.ref a3), .val (.ref a4), .val (.ref a5), .val (.ref a6), .val .null, .val .null, .val (.ref a9), .unset] [])) _
    refine XS.aloadN X59.here hx rfl (hb hby d1_25) rfl rfl ?_
    show Steps p.tables e below (T59.setTop (mkF m 26 #[.val (.ref a1), .val (.ref a2), .val (.ref a3), .val (.ref a4), .val (.ref a5), .val (.ref a6), .val .null, .val .null, .val (.ref a9), .unset] [(.ref a1)])) _
    refine XS.aload X59.here hx rfl (hb hby d1_26) rfl rfl ?_
    show Steps p.tables e below (T59.setTop (mkF m 28 #[.val (.ref a1), .val (.ref a2), .val (.ref a3), .val (.ref a4), .val (.ref a5), .val (.ref a6), .val .null, .val .null, .val (.ref a9), .unset] [(.ref a6), (.ref a1)])) _
    refine st76 _ ?_
    show Steps p.tables e below (T76.setTop (mkF m 31 #[.val (.ref a1), .val (.ref a2), .val (.ref a3), .val (.ref a4), .val (.ref a5), .val (.ref a6), .val .null, .val .null, .val (.ref a9), .unset] [])) _
    refine XS.aloadN X76.here hx rfl (hb hby d1_31) rfl rfl ?_
    show Steps p.tables e below (T76.setTop (mkF m 32 #[.val (.ref a1), .val (.ref a2), .val (.ref a3), .val (.ref a4), .val (.ref a5), .val (.ref a6), .val .null, .val .null, .val (.ref a9), .unset] [(.ref a1)])) _
    refine XS.aload X76.here hx rfl (hb hby d1_32) rfl rfl ?_
    show Steps p.tables e below (T76.setTop (mkF m 34 #[.val (.ref a1), .val (.ref a2), .val (.ref a3), .val (.ref a4), .val (.ref a5), .val (.ref a6), .val .null, .val .null, .val (.ref a9), .unset] [.null, (.ref a1)])) _
    refine st92 _ ?_
    show Steps p.tables e below (T92.setTop (mkF m 37 #[.val (.ref a1), .val (.ref a2), .val (.ref a3), .val (.ref a4), .val (.ref a5), .val (.ref a6), .val .null, .val .null, .val (.ref a9), .unset] [])) _
    refine XS.aloadN X92.here hx rfl (hb hby d1_37) rfl rfl ?_
    show Steps p.tables e below (T92.setTop (mkF m 38 #[.val (.ref a1), .val (.ref a2), .val (.ref a3), .val (.ref a4), .val (.ref a5), .val (.ref a6), .val .null, .val .null, .val (.ref a9), .unset] [(.ref a1)])) _
    refine XS.aload X92.here hx rfl (hb hby d1_38) rfl rfl ?_
    show Steps p.tables e below (T92.setTop (mkF m 40 #[.val (.ref a1), .val (.ref a2), .val (.ref a3), .val (.ref a4), .val (.ref a5), .val (.ref a6), .val .null, .val .null, .val (.ref a9), .unset] [.null, (.ref a1)])) _
    refine st107 _ ?_
    show Steps p.tables e below (T107.setTop (mkF m 43 #[.val (.ref a1), .val (.ref a2), .val (.ref a3), .val (.ref a4), .val (.ref a5), .val (.ref a6), .val .null, .val .null, .val (.ref a9), .unset] [])) _
    refine XS.aloadN X107.here hx rfl (hb hby d1_43) rfl rfl ?_
    show Steps p.tables e below (T107.setTop (mkF m 44 #[.val (.ref a1), .val (.ref a2), .val (.ref a3), .val (.ref a4), .val (.ref a5), .val (.ref a6), .val .null, .val .null, .val (.ref a9), .unset] [(.ref a1)])) _
    refine XS.aload X107.here hx rfl (hb hby d1_44) rfl rfl ?_
    show Steps p.tables e below (T107.setTop (mkF m 46 #[.val (.ref a1), .val (.ref a2), .val (.ref a3), .val (.ref a4), .val (.ref a5), .val (.ref a6), .val .null, .val .null, .val (.ref a9), .unset] [(.ref a9), (.ref a1)])) _
    refine st121 _ ?_
    show Steps p.tables e below (T121.setTop (mkF m 49 #[.val (.ref a1), .val (.ref a2), .val (.ref a3), .val (.ref a4), .val (.ref a5), .val (.ref a6), .val .null, .val .null, .val (.ref a9), .unset] [])) _
    refine XS.aload X121.here hx rfl (hb hby d1_49) rfl rfl ?_
    show Steps p.tables e below (T121.setTop (mkF m 51 #[.val (.ref a1), .val (.ref a2), .val (.ref a3), .val (.ref a4), .val (.ref a5), .val (.ref a6), .val .null, .val .null, .val (.ref a9), .unset] [(.ref a9)])) _
    refine own_len X121 hx hZ e121 V132 (g := (mkF m 51 #[.val (.ref a1), .val (.ref a2), .val (.ref a3), .val (.ref a4), .val (.ref a5), .val (.ref a6), .val .null, .val .null, .val (.ref a9), .unset] [(.ref a9)])) rfl rfl (hb hby d1_51) _ ?_
    show Steps p.tables e below (T121.setTop (mkF m 52 #[.val (.ref a1), .val (.ref a2), .val (.ref a3), .val (.ref a4), .val (.ref a5), .val (.ref a6), .val .null, .val .null, .val (.ref a9), .unset] [(.int (3 : Int32))])) _
    refine XS.istore X121.here hx rfl (hb hby d1_52) rfl (l' := #[.val (.ref a1), .val (.ref a2), .val (.ref a3), .val (.ref a4), .val (.ref a5), .val (.ref a6), .val .null, .val .null, .val (.ref a9), .val (.int (3 : Int32))]) rfl ?_
    show Steps p.tables e below (T121.setTop (mkF m 54 #[.val (.ref a1), .val (.ref a2), .val (.ref a3), .val (.ref a4), .val (.ref a5), .val (.ref a6), .val .null, .val .null, .val (.ref a9), .val (.int (3 : Int32))] [])) _
    refine XS.aloadN X121.here hx rfl (hb hby d1_54) rfl rfl ?_
    show Steps p.tables e below (T121.setTop (mkF m 55 #[.val (.ref a1), .val (.ref a2), .val (.ref a3), .val (.ref a4), .val (.ref a5), .val (.ref a6), .val .null, .val .null, .val (.ref a9), .val (.int (3 : Int32))] [(.ref a1)])) _
    refine XS.iload X121.here hx rfl (hb hby d1_55) rfl ?_
    show Steps p.tables e below (T121.setTop (mkF m 57 #[.val (.ref a1), .val (.ref a2), .val (.ref a3), .val (.ref a4), .val (.ref a5), .val (.ref a6), .val .null, .val .null, .val (.ref a9), .val (.int (3 : Int32))] [(.int (3 : Int32)), (.ref a1)])) _
    refine st134 _ ?_
    show Steps p.tables e below (T134.setTop (mkF m 59 #[.val (.ref a1), .val (.ref a2), .val (.ref a3), .val (.ref a4), .val (.ref a5), .val (.ref a6), .val .null, .val .null, .val (.ref a9), .val (.int (3 : Int32))] [(.ref b134), (.ref a1)])) _
    refine st148 _ ?_
    show Steps p.tables e below (T148.setTop (mkF m 62 #[.val (.ref a1), .val (.ref a2), .val (.ref a3), .val (.ref a4), .val (.ref a5), .val (.ref a6), .val .null, .val .null, .val (.ref a9), .val (.int (3 : Int32))] [])) _
    refine XS.aloadN X148.here hx rfl (hb hby d1_62) rfl rfl ?_
    show Steps p.tables e below (T148.setTop (mkF m 63 #[.val (.ref a1), .val (.ref a2), .val (.ref a3), .val (.ref a4), .val (.ref a5), .val (.ref a6), .val .null, .val .null, .val (.ref a9), .val (.int (3 : Int32))] [(.ref a1)])) _
    refine XS.iload X148.here hx rfl (hb hby d1_63) rfl ?_
    show Steps p.tables e below (T148.setTop (mkF m 65 #[.val (.ref a1), .val (.ref a2), .val (.ref a3), .val (.ref a4), .val (.ref a5), .val (.ref a6), .val .null, .val .null, .val (.ref a9), .val (.int (3 : Int32))] [(.int (3 : Int32)), (.ref a1)])) _
    refine st160 _ ?_
    show Steps p.tables e below (T160.setTop (mkF m 67 #[.val (.ref a1), .val (.ref a2), .val (.ref a3), .val (.ref a4), .val (.ref a5), .val (.ref a6), .val .null, .val .null, .val (.ref a9), .val (.int (3 : Int32))] [(.ref b160), (.ref a1)])) _
    refine st176 _ ?_
    show Steps p.tables e below (T176.setTop (mkF m 70 #[.val (.ref a1), .val (.ref a2), .val (.ref a3), .val (.ref a4), .val (.ref a5), .val (.ref a6), .val .null, .val .null, .val (.ref a9), .val (.int (3 : Int32))] [])) _
    refine XS.aloadN X176.here hx rfl (hb hby d1_70) rfl rfl ?_
    show Steps p.tables e below (T176.setTop (mkF m 71 #[.val (.ref a1), .val (.ref a2), .val (.ref a3), .val (.ref a4), .val (.ref a5), .val (.ref a6), .val .null, .val .null, .val (.ref a9), .val (.int (3 : Int32))] [(.ref a1)])) _
    refine XS.iload X176.here hx rfl (hb hby d1_71) rfl ?_
    show Steps p.tables e below (T176.setTop (mkF m 73 #[.val (.ref a1), .val (.ref a2), .val (.ref a3), .val (.ref a4), .val (.ref a5), .val (.ref a6), .val .null, .val .null, .val (.ref a9), .val (.int (3 : Int32))] [(.int (3 : Int32)), (.ref a1)])) _
    refine st189 _ ?_
    show Steps p.tables e below (T189.setTop (mkF m 75 #[.val (.ref a1), .val (.ref a2), .val (.ref a3), .val (.ref a4), .val (.ref a5), .val (.ref a6), .val .null, .val .null, .val (.ref a9), .val (.int (3 : Int32))] [(.ref b189), (.ref a1)])) _
    refine st206 _ ?_
    show Steps p.tables e below (T206.setTop (mkF m 78 #[.val (.ref a1), .val (.ref a2), .val (.ref a3), .val (.ref a4), .val (.ref a5), .val (.ref a6), .val .null, .val .null, .val (.ref a9), .val (.int (3 : Int32))] [])) _
    refine XS.aloadN X206.here hx rfl (hb hby d1_78) rfl rfl ?_
    show Steps p.tables e below (T206.setTop (mkF m 79 #[.val (.ref a1), .val (.ref a2), .val (.ref a3), .val (.ref a4), .val (.ref a5), .val (.ref a6), .val .null, .val .null, .val (.ref a9), .val (.int (3 : Int32))] [(.ref a1)])) _
    refine XS.iload X206.here hx rfl (hb hby d1_79) rfl ?_
    show Steps p.tables e below (T206.setTop (mkF m 81 #[.val (.ref a1), .val (.ref a2), .val (.ref a3), .val (.ref a4), .val (.ref a5), .val (.ref a6), .val .null, .val .null, .val (.ref a9), .val (.int (3 : Int32))] [(.int (3 : Int32)), (.ref a1)])) _
    refine st219 _ ?_
    show Steps p.tables e below (T219.setTop (mkF m 83 #[.val (.ref a1), .val (.ref a2), .val (.ref a3), .val (.ref a4), .val (.ref a5), .val (.ref a6), .val .null, .val .null, .val (.ref a9), .val (.int (3 : Int32))] [(.ref b219), (.ref a1)])) _
    refine st237 _ ?_
    exact k)
  obtain ⟨fs, hr, hrun, hended, hW, hsame⟩ := X237.leave (v := none) (fun _ => rfl) (BodyLoose.notSynchronized Bd)
  refine ⟨_, _, k251 _ ?_, hrun, hended, _, _, rfl, ?_, ⟨_, rfl⟩, hW, hsame.mono (by decide) (by decide)⟩
  · show Steps p.tables e below (T237.setTop (mkF m 86 #[.val (.ref a1), .val (.ref a2), .val (.ref a3), .val (.ref a4), .val (.ref a5), .val (.ref a6), .val .null, .val .null, .val (.ref a9), .val (.int (3 : Int32))] [])) _
    exact X237.returnOut hx Bd.returns (hb hby d1_86) hr
  ·
    show Qinit _ a1 a2 a3 a4 a5 a6 a9 k9 L9 h0 n0 _ T237.heap _
    rw [e237]
    exact ⟨rfl, N237, K249, b134, b219, kc134, kc219, ⟨sz_b134, sz_b219, ne221⟩, ⟨E239, F240, F238, F241, F242, F243, F244, V245, V248⟩⟩
theorem own_mod3 (x : Int32) : ((x &&& (2147483647 : Int32)) - ((x &&& (2147483647 : Int32)) / (3 : Int32)) * (3 : Int32)) = 0 ∨ ((x &&& (2147483647 : Int32)) - ((x &&& (2147483647 : Int32)) / (3 : Int32)) * (3 : Int32)) = 1 ∨ ((x &&& (2147483647 : Int32)) - ((x &&& (2147483647 : Int32)) / (3 : Int32)) * (3 : Int32)) = 2 := by
  have h1 := c_mask x 2147483647 31 (by decide) (by decide)
  have h2 := own_irem (x &&& (2147483647 : Int32)) 3 3 (by decide) (by decide) (by decide) (by rw [h1]; omega)
  generalize (x &&& (2147483647 : Int32)) - ((x &&& (2147483647 : Int32)) / (3 : Int32)) * (3 : Int32) = y at *
  have z0 : (0 : Int32).toInt = 0 := by decide
  have z1 : (1 : Int32).toInt = 1 := by decide
  have z2 : (2 : Int32).toInt = 2 := by decide
  simp only [← Int32.toInt_inj, z0, z1, z2]; omega
theorem own_and1 (y : Int32) : (y &&& (1 : Int32)) = 0 ∨ (y &&& (1 : Int32)) = 1 := by
  have h1 := c_mask y 1 1 (by decide) (by decide)
  have z0 : (0 : Int32).toInt = 0 := by decide
  have z1 : (1 : Int32).toInt = 1 := by decide
  simp only [← Int32.toInt_inj, z0, z1]; omega
theorem own_and3 (y : Int32) : (y &&& (3 : Int32)) = 0 ∨ (y &&& (3 : Int32)) = 1 ∨ (y &&& (3 : Int32)) = 2 ∨ (y &&& (3 : Int32)) = 3 := by
  have h1 := c_mask y 3 2 (by decide) (by decide)
  have z0 : (0 : Int32).toInt = 0 := by decide
  have z1 : (1 : Int32).toInt = 1 := by decide
  have z2 : (2 : Int32).toInt = 2 := by decide
  have z3 : (3 : Int32).toInt = 3 := by decide
  simp only [← Int32.toInt_inj, z0, z1, z2, z3]; omega
theorem own_and7 (y : Int32) : (y &&& (7 : Int32)) = 0 ∨ (y &&& (7 : Int32)) = 1 ∨ (y &&& (7 : Int32)) = 2 ∨ (y &&& (7 : Int32)) = 3 ∨ (y &&& (7 : Int32)) = 4 ∨ (y &&& (7 : Int32)) = 5 ∨ (y &&& (7 : Int32)) = 6 ∨ (y &&& (7 : Int32)) = 7 := by
  have h1 := c_mask y 7 3 (by decide) (by decide)
  have z0 : (0 : Int32).toInt = 0 := by decide
  have z1 : (1 : Int32).toInt = 1 := by decide
  have z2 : (2 : Int32).toInt = 2 := by decide
  have z3 : (3 : Int32).toInt = 3 := by decide
  have z4 : (4 : Int32).toInt = 4 := by decide
  have z5 : (5 : Int32).toInt = 5 := by decide
  have z6 : (6 : Int32).toInt = 6 := by decide
  have z7 : (7 : Int32).toInt = 7 := by decide
  simp only [← Int32.toInt_inj, z0, z1, z2, z3, z4, z5, z6, z7]; omega
theorem own_sh0 (d q : Int32) (k : Nat) (hk : q.toBitVec.toNat % 32 = k) : ((d >>> (q &&& 31)) &&& (1 : Int32)) = (0 : Int32) ↔ d.toInt / (2 ^ k : Nat) % 2 = 0 := by
  have h1 := c_mask (d >>> (q &&& 31)) 1 1 (by decide) (by decide)
  rw [c_ishr d q k hk] at h1
  have z0 : (0 : Int32).toInt = 0 := by decide
  rw [← Int32.toInt_inj, h1, z0]; omega
theorem own_fl0 (d : Int32) : own_flag d 0 = (if (d &&& (1 : Int32)) = (0 : Int32) then (0 : Int32) else (1 : Int32)) := by
  have h := own_sh0 d 0 0 (by decide)
  have h1 := c_mask d 1 1 (by decide) (by decide)
  have z0 : (0 : Int32).toInt = 0 := by decide
  have e : ((d >>> ((0 : Int32) &&& 31)) &&& (1 : Int32)) = (0 : Int32) ↔ (d &&& (1 : Int32)) = (0 : Int32) := by
    rw [h, ← Int32.toInt_inj, h1, z0]; omega
  unfold own_flag; simp only [e]
theorem own_fl1 (d : Int32) : own_flag d 1 = (if (d &&& (2 : Int32)) = (0 : Int32) then (0 : Int32) else (1 : Int32)) := by
  have h := own_sh0 d 1 1 (by decide)
  have h1 := c_mask d 3 2 (by decide) (by decide)
  have e0 : d &&& (2 : Int32) = (d &&& (3 : Int32)) &&& (2 : Int32) := by rw [Int32.and_assoc]; rfl
  have e : ((d >>> ((1 : Int32) &&& 31)) &&& (1 : Int32)) = (0 : Int32) ↔ (d &&& (2 : Int32)) = (0 : Int32) := by
    rw [h, e0]
    rcases own_and3 d with q | q | q | q <;> rw [q] at h1 ⊢
    · have z : (0 : Int32).toInt = 0 := by decide
      rw [z] at h1; exact iff_of_true (by omega) (by decide)
    · have z : (1 : Int32).toInt = 1 := by decide
      rw [z] at h1; exact iff_of_true (by omega) (by decide)
    · have z : (2 : Int32).toInt = 2 := by decide
      rw [z] at h1; exact iff_of_false (by omega) (by decide)
    · have z : (3 : Int32).toInt = 3 := by decide
      rw [z] at h1; exact iff_of_false (by omega) (by decide)
  unfold own_flag; simp only [e]
theorem own_fl2 (d : Int32) : own_flag d 2 = (if (d &&& (4 : Int32)) = (0 : Int32) then (0 : Int32) else (1 : Int32)) := by
  have h := own_sh0 d 2 2 (by decide)
  have h1 := c_mask d 7 3 (by decide) (by decide)
  have e0 : d &&& (4 : Int32) = (d &&& (7 : Int32)) &&& (4 : Int32) := by rw [Int32.and_assoc]; rfl
  have e : ((d >>> ((2 : Int32) &&& 31)) &&& (1 : Int32)) = (0 : Int32) ↔ (d &&& (4 : Int32)) = (0 : Int32) := by
    rw [h, e0]
    rcases own_and7 d with q | q | q | q | q | q | q | q <;> rw [q] at h1 ⊢
    · have z : (0 : Int32).toInt = 0 := by decide
      rw [z] at h1; exact iff_of_true (by omega) (by decide)
    · have z : (1 : Int32).toInt = 1 := by decide
      rw [z] at h1; exact iff_of_true (by omega) (by decide)
    · have z : (2 : Int32).toInt = 2 := by decide
      rw [z] at h1; exact iff_of_true (by omega) (by decide)
    · have z : (3 : Int32).toInt = 3 := by decide
      rw [z] at h1; exact iff_of_true (by omega) (by decide)
    · have z : (4 : Int32).toInt = 4 := by decide
      rw [z] at h1; exact iff_of_false (by omega) (by decide)
    · have z : (5 : Int32).toInt = 5 := by decide
      rw [z] at h1; exact iff_of_false (by omega) (by decide)
    · have z : (6 : Int32).toInt = 6 := by decide
      rw [z] at h1; exact iff_of_false (by omega) (by decide)
    · have z : (7 : Int32).toInt = 7 := by decide
      rw [z] at h1; exact iff_of_false (by omega) (by decide)
  unfold own_flag; simp only [e]
theorem own_idx4 (p1 p2 p4 p5 p6 : Int32) : own_idx p1 p2 p4 p5 p6 = 0 ∨ own_idx p1 p2 p4 p5 p6 = 1 ∨ own_idx p1 p2 p4 p5 p6 = 2 ∨ own_idx p1 p2 p4 p5 p6 = -1 := by
  unfold own_idx; repeat' split
  all_goals simp
def own_placeB (p0 p1 p2 p3 p4 p5 p6 b0 b1 b2 : Int32) : Int32 := if p0 < p2 then if own_idx p1 p2 p4 p5 p6 < (0 : Int32) then (0 : Int32) else if (if own_idx p1 p2 p4 p5 p6 = 0 then b0 else if own_idx p1 p2 p4 p5 p6 = 1 then b1 else b2) = (if p0 < p3 then (1 : Int32) else (0 : Int32)) then (1 : Int32) else (0 : Int32) else (1 : Int32)
theorem own_place_eq (p0 p1 p2 p3 p4 p5 p6 p7 : Int32) {b0 b1 b2 : Int32} (h0 : own_flag p7 0 = b0) (h1 : own_flag p7 1 = b1) (h2 : own_flag p7 2 = b2) : own_place p0 p1 p2 p3 p4 p5 p6 p7 = own_placeB p0 p1 p2 p3 p4 p5 p6 b0 b1 b2 := by
  unfold own_place own_placeB
  rcases own_idx4 p1 p2 p4 p5 p6 with h | h | h | h <;> rw [h]
  · rw [h0]; rfl
  · rw [h1]; rfl
  · rw [h2]; rfl
  · rfl
theorem own_bool {P : Prop} [Decidable P] {b : Int32} (h : b = (if P then (0 : Int32) else (1 : Int32))) : b = 0 ∨ b = 1 := by
  subst h; split <;> simp
theorem own_lt3 {x : Int32} (h : x = 0 ∨ x = 1 ∨ x = 2) : ¬ x < 0 ∧ x < (3 : Int32) := by rcases h with rfl | rfl | rfl <;> decide
theorem own_fm1 {b : Int32} (h : b = 0 ∨ b = 1) : own_fm b 0 = 0 ∨ own_fm b 0 = 1 ∨ own_fm b 0 = 2 := by rcases h with rfl | rfl <;> decide
theorem own_fm2 {b c : Int32} (h : b = 0 ∨ b = 1) (h' : c = 0 ∨ c = 1) : own_fm c (own_fm b 0) = 0 ∨ own_fm c (own_fm b 0) = 1 ∨ own_fm c (own_fm b 0) = 2 := by rcases h with rfl | rfl <;> rcases h' with rfl | rfl <;> decide
theorem own_s1 {s0 y : Int32} (h : s0 = 0 ∨ s0 = 1 ∨ s0 = 2) (h' : y = 0 ∨ y = 1) : (((s0 + (1 : Int32)) + y) - (((s0 + (1 : Int32)) + y) / (3 : Int32)) * (3 : Int32)) = 0 ∨ (((s0 + (1 : Int32)) + y) - (((s0 + (1 : Int32)) + y) / (3 : Int32)) * (3 : Int32)) = 1 ∨ (((s0 + (1 : Int32)) + y) - (((s0 + (1 : Int32)) + y) / (3 : Int32)) * (3 : Int32)) = 2 := by
  rcases h with rfl | rfl | rfl <;> rcases h' with rfl | rfl <;> decide
theorem own_s2 {s0 y : Int32} (h : s0 = 0 ∨ s0 = 1 ∨ s0 = 2) (h' : y = 0 ∨ y = 1) : (((3 : Int32) - s0) - (((s0 + (1 : Int32)) + y) - (((s0 + (1 : Int32)) + y) / (3 : Int32)) * (3 : Int32))) = 0 ∨ (((3 : Int32) - s0) - (((s0 + (1 : Int32)) + y) - (((s0 + (1 : Int32)) + y) / (3 : Int32)) * (3 : Int32))) = 1 ∨ (((3 : Int32) - s0) - (((s0 + (1 : Int32)) + y) - (((s0 + (1 : Int32)) + y) / (3 : Int32)) * (3 : Int32))) = 2 := by
  rcases h with rfl | rfl | rfl <;> rcases h' with rfl | rfl <;> decide
def own_lit (n : Nat) : Int32 := Int32.ofNat n
theorem own_f3 {x : Int32} (h : x = 0 ∨ x = 1 ∨ x = 2) : ∃ a : Fin 3, x = own_lit a.1 := h.elim (fun e => ⟨0, e⟩) (fun h => h.elim (fun e => ⟨1, e⟩) (fun e => ⟨2, e⟩))
theorem own_f2 {x : Int32} (h : x = 0 ∨ x = 1) : ∃ a : Fin 2, x = own_lit a.1 := h.elim (fun e => ⟨0, e⟩) (fun e => ⟨1, e⟩)
def own_chk0 (s0 yb pr b0 b1 b2 bp : Int32) : Bool :=
  let s1 : Int32 := (((s0 + (1 : Int32)) + yb) - (((s0 + (1 : Int32)) + yb) / (3 : Int32)) * (3 : Int32))
  let s2 : Int32 := (((3 : Int32) - s0) - s1)
  let fc : Int32 := (((0 : Int32) + (0 : Int32)) + (0 : Int32))
  let re0 : List Int32 := own_re pr bp 0 0 ([0, 0, 0] : List Int32)
  let rm0 : List Int32 := ([0, 0, 0] : List Int32).set pr.toNatClampNeg (0 + 1)
  decide (own_placeB (0 : Int32) (-1 : Int32) (0 : Int32) fc s0 s1 s2 b0 b1 b2 = 1) && decide (own_placeB (1 : Int32) (-1 : Int32) (0 : Int32) fc s0 s1 s2 b0 b1 b2 = 1) && decide (own_placeB (2 : Int32) (-1 : Int32) (0 : Int32) fc s0 s1 s2 b0 b1 b2 = 1) && decide (own_ism (0 : Int32) rm0 (0 + 1 + 1) = own_exp (0 : Int32) (0 : Int32) s0 s1 s2) && decide (own_ism (1 : Int32) rm0 (0 + 1 + 1) = own_exp (1 : Int32) (0 : Int32) s0 s1 s2) && decide (own_ism (2 : Int32) rm0 (0 + 1 + 1) = own_exp (2 : Int32) (0 : Int32) s0 s1 s2)
theorem own_all0 : ∀ (a : Fin 3) (y : Fin 2) (q : Fin 3) (b0 b1 b2 bp : Fin 2), own_chk0 (own_lit a.1) (own_lit y.1) (own_lit q.1) (own_lit b0.1) (own_lit b1.1) (own_lit b2.1) (own_lit bp.1) = true := by decide +kernel
theorem own_fin0 {s0 yb pr b0 b1 b2 bp dd s1 s2 fc : Int32} {re0 rm0 : List Int32} (h0 : s0 = 0 ∨ s0 = 1 ∨ s0 = 2) (hy : yb = 0 ∨ yb = 1) (hp : pr = 0 ∨ pr = 1 ∨ pr = 2) (hb0 : b0 = 0 ∨ b0 = 1) (hb1 : b1 = 0 ∨ b1 = 1) (hb2 : b2 = 0 ∨ b2 = 1) (hbp : bp = 0 ∨ bp = 1) (f0 : own_flag dd 0 = b0) (f1 : own_flag dd 1 = b1) (f2 : own_flag dd 2 = b2) (hs1 : s1 = (((s0 + (1 : Int32)) + yb) - (((s0 + (1 : Int32)) + yb) / (3 : Int32)) * (3 : Int32))) (hs2 : s2 = (((3 : Int32) - s0) - s1)) (hfc : fc = (((0 : Int32) + (0 : Int32)) + (0 : Int32))) (hre0 : re0 = own_re pr bp 0 0 ([0, 0, 0] : List Int32)) (hrm0 : rm0 = ([0, 0, 0] : List Int32).set pr.toNatClampNeg (0 + 1)) : own_place (0 : Int32) (-1 : Int32) (0 : Int32) fc s0 s1 s2 dd = 1 ∧ own_place (1 : Int32) (-1 : Int32) (0 : Int32) fc s0 s1 s2 dd = 1 ∧ own_place (2 : Int32) (-1 : Int32) (0 : Int32) fc s0 s1 s2 dd = 1 ∧ own_ism (0 : Int32) rm0 (0 + 1 + 1) = own_exp (0 : Int32) (0 : Int32) s0 s1 s2 ∧ own_ism (1 : Int32) rm0 (0 + 1 + 1) = own_exp (1 : Int32) (0 : Int32) s0 s1 s2 ∧ own_ism (2 : Int32) rm0 (0 + 1 + 1) = own_exp (2 : Int32) (0 : Int32) s0 s1 s2 := by
  simp only [own_place_eq _ _ _ _ _ _ _ _ f0 f1 f2]
  clear f0 f1 f2
  obtain ⟨a, rfl⟩ := own_f3 h0
  obtain ⟨y, rfl⟩ := own_f2 hy
  obtain ⟨q, rfl⟩ := own_f3 hp
  obtain ⟨c0, rfl⟩ := own_f2 hb0
  obtain ⟨c1, rfl⟩ := own_f2 hb1
  obtain ⟨c2, rfl⟩ := own_f2 hb2
  obtain ⟨cp, rfl⟩ := own_f2 hbp
  have h := own_all0 a y q c0 c1 c2 cp
  subst hs1 hs2 hfc hre0 hrm0
  unfold own_chk0 at h
  simp only [Bool.and_eq_true, decide_eq_true_eq] at h
  simpa only [and_assoc] using h
def own_chk1 (s0 yb pr b0 b1 b2 bp : Int32) : Bool :=
  let s1 : Int32 := (((s0 + (1 : Int32)) + yb) - (((s0 + (1 : Int32)) + yb) / (3 : Int32)) * (3 : Int32))
  let s2 : Int32 := (((3 : Int32) - s0) - s1)
  let fc : Int32 := (((if b0 = (0 : Int32) then (0 : Int32) else (1 : Int32)) + (0 : Int32)) + (0 : Int32))
  let re0 : List Int32 := own_re pr bp 0 0 ([0, 0, 0] : List Int32)
  let rm0 : List Int32 := ([0, 0, 0] : List Int32).set pr.toNatClampNeg (0 + 1)
  let re1 : List Int32 := own_re s0 b0 0 0 re0
  let rm1 : List Int32 := rm0.set s0.toNatClampNeg (0 + 1 + 1)
  let fm1 : Int32 := own_fm b0 0
  decide (own_placeB (0 : Int32) (re1.getD (0 : Int32).toNatClampNeg 0) (1 : Int32) fc s0 s1 s2 b0 b1 b2 = 1) && decide (own_placeB (1 : Int32) (-1 : Int32) (1 : Int32) fc s0 s1 s2 b0 b1 b2 = 1) && decide (own_placeB (2 : Int32) (-1 : Int32) (1 : Int32) fc s0 s1 s2 b0 b1 b2 = 1) && decide (own_ism (0 : Int32) rm1 (0 + 1 + 1) = own_exp (0 : Int32) (1 : Int32) s0 s1 s2) && decide (own_ism (1 : Int32) rm1 (0 + 1 + 1) = own_exp (1 : Int32) (1 : Int32) s0 s1 s2) && decide (own_ism (2 : Int32) rm1 (0 + 1 + 1) = own_exp (2 : Int32) (1 : Int32) s0 s1 s2)
theorem own_all1 : ∀ (a : Fin 3) (y : Fin 2) (q : Fin 3) (b0 b1 b2 bp : Fin 2), own_chk1 (own_lit a.1) (own_lit y.1) (own_lit q.1) (own_lit b0.1) (own_lit b1.1) (own_lit b2.1) (own_lit bp.1) = true := by decide +kernel
theorem own_fin1 {s0 yb pr b0 b1 b2 bp dd s1 s2 fc : Int32} {re0 rm0 re1 rm1 : List Int32} {fm1 : Int32} (h0 : s0 = 0 ∨ s0 = 1 ∨ s0 = 2) (hy : yb = 0 ∨ yb = 1) (hp : pr = 0 ∨ pr = 1 ∨ pr = 2) (hb0 : b0 = 0 ∨ b0 = 1) (hb1 : b1 = 0 ∨ b1 = 1) (hb2 : b2 = 0 ∨ b2 = 1) (hbp : bp = 0 ∨ bp = 1) (f0 : own_flag dd 0 = b0) (f1 : own_flag dd 1 = b1) (f2 : own_flag dd 2 = b2) (hs1 : s1 = (((s0 + (1 : Int32)) + yb) - (((s0 + (1 : Int32)) + yb) / (3 : Int32)) * (3 : Int32))) (hs2 : s2 = (((3 : Int32) - s0) - s1)) (hfc : fc = (((if b0 = (0 : Int32) then (0 : Int32) else (1 : Int32)) + (0 : Int32)) + (0 : Int32))) (hre0 : re0 = own_re pr bp 0 0 ([0, 0, 0] : List Int32)) (hrm0 : rm0 = ([0, 0, 0] : List Int32).set pr.toNatClampNeg (0 + 1)) (hre1 : re1 = own_re s0 b0 0 0 re0) (hrm1 : rm1 = rm0.set s0.toNatClampNeg (0 + 1 + 1)) (hfm1 : fm1 = own_fm b0 0) : own_place (0 : Int32) (re1.getD (0 : Int32).toNatClampNeg 0) (1 : Int32) fc s0 s1 s2 dd = 1 ∧ own_place (1 : Int32) (-1 : Int32) (1 : Int32) fc s0 s1 s2 dd = 1 ∧ own_place (2 : Int32) (-1 : Int32) (1 : Int32) fc s0 s1 s2 dd = 1 ∧ own_ism (0 : Int32) rm1 (0 + 1 + 1) = own_exp (0 : Int32) (1 : Int32) s0 s1 s2 ∧ own_ism (1 : Int32) rm1 (0 + 1 + 1) = own_exp (1 : Int32) (1 : Int32) s0 s1 s2 ∧ own_ism (2 : Int32) rm1 (0 + 1 + 1) = own_exp (2 : Int32) (1 : Int32) s0 s1 s2 := by
  simp only [own_place_eq _ _ _ _ _ _ _ _ f0 f1 f2]
  clear f0 f1 f2
  obtain ⟨a, rfl⟩ := own_f3 h0
  obtain ⟨y, rfl⟩ := own_f2 hy
  obtain ⟨q, rfl⟩ := own_f3 hp
  obtain ⟨c0, rfl⟩ := own_f2 hb0
  obtain ⟨c1, rfl⟩ := own_f2 hb1
  obtain ⟨c2, rfl⟩ := own_f2 hb2
  obtain ⟨cp, rfl⟩ := own_f2 hbp
  have h := own_all1 a y q c0 c1 c2 cp
  subst hs1 hs2 hfc hre0 hrm0 hre1 hrm1 hfm1
  unfold own_chk1 at h
  simp only [Bool.and_eq_true, decide_eq_true_eq] at h
  simpa only [and_assoc] using h
def own_chk2 (s0 yb pr b0 b1 b2 bp : Int32) : Bool :=
  let s1 : Int32 := (((s0 + (1 : Int32)) + yb) - (((s0 + (1 : Int32)) + yb) / (3 : Int32)) * (3 : Int32))
  let s2 : Int32 := (((3 : Int32) - s0) - s1)
  let fc : Int32 := (((if b0 = (0 : Int32) then (0 : Int32) else (1 : Int32)) + (if b1 = (0 : Int32) then (0 : Int32) else (1 : Int32))) + (0 : Int32))
  let re0 : List Int32 := own_re pr bp 0 0 ([0, 0, 0] : List Int32)
  let rm0 : List Int32 := ([0, 0, 0] : List Int32).set pr.toNatClampNeg (0 + 1)
  let re1 : List Int32 := own_re s0 b0 0 0 re0
  let rm1 : List Int32 := rm0.set s0.toNatClampNeg (0 + 1 + 1)
  let fm1 : Int32 := own_fm b0 0
  let re2 : List Int32 := own_re s1 b1 (0 + 1) fm1 re1
  let rm2 : List Int32 := rm1.set s1.toNatClampNeg (0 + 1 + 1)
  let fm2 : Int32 := own_fm b1 fm1
  decide (own_placeB (0 : Int32) (re2.getD (0 : Int32).toNatClampNeg 0) (2 : Int32) fc s0 s1 s2 b0 b1 b2 = 1) && decide (own_placeB (1 : Int32) (re2.getD (1 : Int32).toNatClampNeg 0) (2 : Int32) fc s0 s1 s2 b0 b1 b2 = 1) && decide (own_placeB (2 : Int32) (-1 : Int32) (2 : Int32) fc s0 s1 s2 b0 b1 b2 = 1) && decide (¬ (re2.getD (0 : Int32).toNatClampNeg 0) = (re2.getD (1 : Int32).toNatClampNeg 0)) && decide (own_ism (0 : Int32) rm2 (0 + 1 + 1) = own_exp (0 : Int32) (2 : Int32) s0 s1 s2) && decide (own_ism (1 : Int32) rm2 (0 + 1 + 1) = own_exp (1 : Int32) (2 : Int32) s0 s1 s2) && decide (own_ism (2 : Int32) rm2 (0 + 1 + 1) = own_exp (2 : Int32) (2 : Int32) s0 s1 s2)
theorem own_all2 : ∀ (a : Fin 3) (y : Fin 2) (q : Fin 3) (b0 b1 b2 bp : Fin 2), own_chk2 (own_lit a.1) (own_lit y.1) (own_lit q.1) (own_lit b0.1) (own_lit b1.1) (own_lit b2.1) (own_lit bp.1) = true := by decide +kernel
theorem own_fin2 {s0 yb pr b0 b1 b2 bp dd s1 s2 fc : Int32} {re0 rm0 re1 rm1 re2 rm2 : List Int32} {fm1 fm2 : Int32} (h0 : s0 = 0 ∨ s0 = 1 ∨ s0 = 2) (hy : yb = 0 ∨ yb = 1) (hp : pr = 0 ∨ pr = 1 ∨ pr = 2) (hb0 : b0 = 0 ∨ b0 = 1) (hb1 : b1 = 0 ∨ b1 = 1) (hb2 : b2 = 0 ∨ b2 = 1) (hbp : bp = 0 ∨ bp = 1) (f0 : own_flag dd 0 = b0) (f1 : own_flag dd 1 = b1) (f2 : own_flag dd 2 = b2) (hs1 : s1 = (((s0 + (1 : Int32)) + yb) - (((s0 + (1 : Int32)) + yb) / (3 : Int32)) * (3 : Int32))) (hs2 : s2 = (((3 : Int32) - s0) - s1)) (hfc : fc = (((if b0 = (0 : Int32) then (0 : Int32) else (1 : Int32)) + (if b1 = (0 : Int32) then (0 : Int32) else (1 : Int32))) + (0 : Int32))) (hre0 : re0 = own_re pr bp 0 0 ([0, 0, 0] : List Int32)) (hrm0 : rm0 = ([0, 0, 0] : List Int32).set pr.toNatClampNeg (0 + 1)) (hre1 : re1 = own_re s0 b0 0 0 re0) (hrm1 : rm1 = rm0.set s0.toNatClampNeg (0 + 1 + 1)) (hfm1 : fm1 = own_fm b0 0) (hre2 : re2 = own_re s1 b1 (0 + 1) fm1 re1) (hrm2 : rm2 = rm1.set s1.toNatClampNeg (0 + 1 + 1)) (hfm2 : fm2 = own_fm b1 fm1) : own_place (0 : Int32) (re2.getD (0 : Int32).toNatClampNeg 0) (2 : Int32) fc s0 s1 s2 dd = 1 ∧ own_place (1 : Int32) (re2.getD (1 : Int32).toNatClampNeg 0) (2 : Int32) fc s0 s1 s2 dd = 1 ∧ own_place (2 : Int32) (-1 : Int32) (2 : Int32) fc s0 s1 s2 dd = 1 ∧ ¬ (re2.getD (0 : Int32).toNatClampNeg 0) = (re2.getD (1 : Int32).toNatClampNeg 0) ∧ own_ism (0 : Int32) rm2 (0 + 1 + 1) = own_exp (0 : Int32) (2 : Int32) s0 s1 s2 ∧ own_ism (1 : Int32) rm2 (0 + 1 + 1) = own_exp (1 : Int32) (2 : Int32) s0 s1 s2 ∧ own_ism (2 : Int32) rm2 (0 + 1 + 1) = own_exp (2 : Int32) (2 : Int32) s0 s1 s2 := by
  simp only [own_place_eq _ _ _ _ _ _ _ _ f0 f1 f2]
  clear f0 f1 f2
  obtain ⟨a, rfl⟩ := own_f3 h0
  obtain ⟨y, rfl⟩ := own_f2 hy
  obtain ⟨q, rfl⟩ := own_f3 hp
  obtain ⟨c0, rfl⟩ := own_f2 hb0
  obtain ⟨c1, rfl⟩ := own_f2 hb1
  obtain ⟨c2, rfl⟩ := own_f2 hb2
  obtain ⟨cp, rfl⟩ := own_f2 hbp
  have h := own_all2 a y q c0 c1 c2 cp
  subst hs1 hs2 hfc hre0 hrm0 hre1 hrm1 hfm1 hre2 hrm2 hfm2
  unfold own_chk2 at h
  simp only [Bool.and_eq_true, decide_eq_true_eq] at h
  simpa only [and_assoc] using h
def own_chk3 (s0 yb pr b0 b1 b2 bp : Int32) : Bool :=
  let s1 : Int32 := (((s0 + (1 : Int32)) + yb) - (((s0 + (1 : Int32)) + yb) / (3 : Int32)) * (3 : Int32))
  let s2 : Int32 := (((3 : Int32) - s0) - s1)
  let fc : Int32 := (((if b0 = (0 : Int32) then (0 : Int32) else (1 : Int32)) + (if b1 = (0 : Int32) then (0 : Int32) else (1 : Int32))) + (if b2 = (0 : Int32) then (0 : Int32) else (1 : Int32)))
  let re0 : List Int32 := own_re pr bp 0 0 ([0, 0, 0] : List Int32)
  let rm0 : List Int32 := ([0, 0, 0] : List Int32).set pr.toNatClampNeg (0 + 1)
  let re1 : List Int32 := own_re s0 b0 0 0 re0
  let rm1 : List Int32 := rm0.set s0.toNatClampNeg (0 + 1 + 1)
  let fm1 : Int32 := own_fm b0 0
  let re2 : List Int32 := own_re s1 b1 (0 + 1) fm1 re1
  let rm2 : List Int32 := rm1.set s1.toNatClampNeg (0 + 1 + 1)
  let fm2 : Int32 := own_fm b1 fm1
  let re3 : List Int32 := own_re s2 b2 ((0 + 1) + 1) fm2 re2
  let rm3 : List Int32 := rm2.set s2.toNatClampNeg (0 + 1 + 1)
  let fm3 : Int32 := own_fm b2 fm2
  decide (own_placeB (0 : Int32) (re3.getD (0 : Int32).toNatClampNeg 0) (3 : Int32) fc s0 s1 s2 b0 b1 b2 = 1) && decide (own_placeB (1 : Int32) (re3.getD (1 : Int32).toNatClampNeg 0) (3 : Int32) fc s0 s1 s2 b0 b1 b2 = 1) && decide (own_placeB (2 : Int32) (re3.getD (2 : Int32).toNatClampNeg 0) (3 : Int32) fc s0 s1 s2 b0 b1 b2 = 1) && decide (¬ (re3.getD (0 : Int32).toNatClampNeg 0) = (re3.getD (1 : Int32).toNatClampNeg 0)) && decide (¬ (re3.getD (0 : Int32).toNatClampNeg 0) = (re3.getD (2 : Int32).toNatClampNeg 0)) && decide (¬ (re3.getD (1 : Int32).toNatClampNeg 0) = (re3.getD (2 : Int32).toNatClampNeg 0)) && decide (own_ism (0 : Int32) rm3 (0 + 1 + 1) = own_exp (0 : Int32) (3 : Int32) s0 s1 s2) && decide (own_ism (1 : Int32) rm3 (0 + 1 + 1) = own_exp (1 : Int32) (3 : Int32) s0 s1 s2) && decide (own_ism (2 : Int32) rm3 (0 + 1 + 1) = own_exp (2 : Int32) (3 : Int32) s0 s1 s2)
theorem own_all3 : ∀ (a : Fin 3) (y : Fin 2) (q : Fin 3) (b0 b1 b2 bp : Fin 2), own_chk3 (own_lit a.1) (own_lit y.1) (own_lit q.1) (own_lit b0.1) (own_lit b1.1) (own_lit b2.1) (own_lit bp.1) = true := by decide +kernel
theorem own_fin3 {s0 yb pr b0 b1 b2 bp dd s1 s2 fc : Int32} {re0 rm0 re1 rm1 re2 rm2 re3 rm3 : List Int32} {fm1 fm2 fm3 : Int32} (h0 : s0 = 0 ∨ s0 = 1 ∨ s0 = 2) (hy : yb = 0 ∨ yb = 1) (hp : pr = 0 ∨ pr = 1 ∨ pr = 2) (hb0 : b0 = 0 ∨ b0 = 1) (hb1 : b1 = 0 ∨ b1 = 1) (hb2 : b2 = 0 ∨ b2 = 1) (hbp : bp = 0 ∨ bp = 1) (f0 : own_flag dd 0 = b0) (f1 : own_flag dd 1 = b1) (f2 : own_flag dd 2 = b2) (hs1 : s1 = (((s0 + (1 : Int32)) + yb) - (((s0 + (1 : Int32)) + yb) / (3 : Int32)) * (3 : Int32))) (hs2 : s2 = (((3 : Int32) - s0) - s1)) (hfc : fc = (((if b0 = (0 : Int32) then (0 : Int32) else (1 : Int32)) + (if b1 = (0 : Int32) then (0 : Int32) else (1 : Int32))) + (if b2 = (0 : Int32) then (0 : Int32) else (1 : Int32)))) (hre0 : re0 = own_re pr bp 0 0 ([0, 0, 0] : List Int32)) (hrm0 : rm0 = ([0, 0, 0] : List Int32).set pr.toNatClampNeg (0 + 1)) (hre1 : re1 = own_re s0 b0 0 0 re0) (hrm1 : rm1 = rm0.set s0.toNatClampNeg (0 + 1 + 1)) (hfm1 : fm1 = own_fm b0 0) (hre2 : re2 = own_re s1 b1 (0 + 1) fm1 re1) (hrm2 : rm2 = rm1.set s1.toNatClampNeg (0 + 1 + 1)) (hfm2 : fm2 = own_fm b1 fm1) (hre3 : re3 = own_re s2 b2 ((0 + 1) + 1) fm2 re2) (hrm3 : rm3 = rm2.set s2.toNatClampNeg (0 + 1 + 1)) (hfm3 : fm3 = own_fm b2 fm2) : own_place (0 : Int32) (re3.getD (0 : Int32).toNatClampNeg 0) (3 : Int32) fc s0 s1 s2 dd = 1 ∧ own_place (1 : Int32) (re3.getD (1 : Int32).toNatClampNeg 0) (3 : Int32) fc s0 s1 s2 dd = 1 ∧ own_place (2 : Int32) (re3.getD (2 : Int32).toNatClampNeg 0) (3 : Int32) fc s0 s1 s2 dd = 1 ∧ ¬ (re3.getD (0 : Int32).toNatClampNeg 0) = (re3.getD (1 : Int32).toNatClampNeg 0) ∧ ¬ (re3.getD (0 : Int32).toNatClampNeg 0) = (re3.getD (2 : Int32).toNatClampNeg 0) ∧ ¬ (re3.getD (1 : Int32).toNatClampNeg 0) = (re3.getD (2 : Int32).toNatClampNeg 0) ∧ own_ism (0 : Int32) rm3 (0 + 1 + 1) = own_exp (0 : Int32) (3 : Int32) s0 s1 s2 ∧ own_ism (1 : Int32) rm3 (0 + 1 + 1) = own_exp (1 : Int32) (3 : Int32) s0 s1 s2 ∧ own_ism (2 : Int32) rm3 (0 + 1 + 1) = own_exp (2 : Int32) (3 : Int32) s0 s1 s2 := by
  simp only [own_place_eq _ _ _ _ _ _ _ _ f0 f1 f2]
  clear f0 f1 f2
  obtain ⟨a, rfl⟩ := own_f3 h0
  obtain ⟨y, rfl⟩ := own_f2 hy
  obtain ⟨q, rfl⟩ := own_f3 hp
  obtain ⟨c0, rfl⟩ := own_f2 hb0
  obtain ⟨c1, rfl⟩ := own_f2 hb1
  obtain ⟨c2, rfl⟩ := own_f2 hb2
  obtain ⟨cp, rfl⟩ := own_f2 hbp
  have h := own_all3 a y q c0 c1 c2 cp
  subst hs1 hs2 hfc hre0 hrm0 hre1 hrm1 hfm1 hre2 hrm2 hfm2 hre3 hrm3 hfm3
  unfold own_chk3 at h
  simp only [Bool.and_eq_true, decide_eq_true_eq] at h
  simpa only [and_assoc] using h
theorem pd___I_I_I_I_ILcom_example_ariadne_ariadne_algo_Blocks_Lcom_example_ariadne_ariadne_algo_StepSets__I_V : parseMethodDescriptor "([I[I[I[I[ILcom/example/ariadne/ariadne/algo/Blocks;Lcom/example/ariadne/ariadne/algo/StepSets;[I)V" = some ⟨[(.array .int), (.array .int), (.array .int), (.array .int), (.array .int), (.object "com/example/ariadne/ariadne/algo/Blocks"), (.object "com/example/ariadne/ariadne/algo/StepSets"), (.array .int)], none⟩ := by decide +kernel
theorem pd___V : parseMethodDescriptor "()V" = some ⟨[], none⟩ := by decide +kernel
theorem pd__IZ_V : parseMethodDescriptor "(IZ)V" = some ⟨[.int, .boolean], none⟩ := by decide +kernel
theorem pd___I : parseMethodDescriptor "()I" = some ⟨[], some .int⟩ := by decide +kernel
theorem pd__IIIIIIII_Z : parseMethodDescriptor "(IIIIIIII)Z" = some ⟨[.int, .int, .int, .int, .int, .int, .int, .int], some .boolean⟩ := by decide +kernel
theorem pd__I_Z : parseMethodDescriptor "(I)Z" = some ⟨[.int], some .boolean⟩ := by decide +kernel
theorem pd__IIIII_Z : parseMethodDescriptor "(IIIII)Z" = some ⟨[.int, .int, .int, .int, .int], some .boolean⟩ := by decide +kernel
theorem pd__I_I : parseMethodDescriptor "(I)I" = some ⟨[.int], some .int⟩ := by decide +kernel
theorem pn_0 : plainName "com/example/ariadne/ariadne/algo/SplitSearchMarkPinLaw" = true := by first | (simp [plainName, overriddenIn]; done) | decide +kernel
theorem ef_law (m : MethodId) (x0 : Int32) (x1 : Int32) (x2 : Int32) (x3 : Int32) (x4 : Int32) : entryFrame m #[(.int x0), (.int x1), (.int x2), (.int x3), (.int x4)] maxLocals = mkF m 0 #[.val (.int x0), .val (.int x1), .val (.int x2), .val (.int x3), .val (.int x4), .unset, .unset, .unset, .unset, .unset, .unset, .unset, .unset, .unset, .unset, .unset, .unset, .unset, .unset, .unset] [] := by first | (simp [entryFrame, mkF, argsToLocals, Value.category, maxLocals]; done) | rfl
def Qlaw (Z : State) (p1 : Int32) (p2 : Int32) (p3 : Int32) (p4 : Int32) (p5 : Int32) (h0 : Heap) (n0 : Nat) (v : Option Value) (h : Heap) (L : List Loc) : Prop := v = some (.int (1 : Int32)) ∧ Fr n0 L
set_option maxRecDepth 65536 in
set_option maxHeartbeats 40000000 in
theorem rm_law (l : Launch) (Z : State) (a0 : Array Value) (hw : ∀ d ∈ tables_1, d.before a0 Z = true) (ws : List Jvm.Cond) (p1 : Int32) (p2 : Int32) (p3 : Int32) (p4 : Int32) (p5 : Int32) (h0 : Heap) (n0 : Nat) (Z0 : n0 ≤ h0.size) :
    MetFree l x (head1 (Jvm.Cond.code x code maxLocals ret :: ws) room_1) (fun a U => a = #[(.int p1), (.int p2), (.int p3), (.int p4), (.int p5)] ∧ Z.Warmed39 U.vm ∧ U.heap = h0) (fun _ _ _ _ _ => True) (fun _ U o U' => ∃ v L, o = .returned v ∧ Qlaw Z p1 p2 p3 p4 p5 h0 n0 v U'.heap L ∧ FrameEnd U o U' L room_1.cells room_1.slots) := by
  refine MetFree.of_bodySF (plainFor_of_name pn_0) hisR ?_
  intro p e s m args below meth c s₁ Bd hml0 hP hK
  obtain ⟨rfl, hZ, hh⟩ := hP
  have hx := Bd.exec
  have hby := Bd.bytes
  have hml : c.maxLocals = 20 := hml0
  have hown : s.vm.findClass "com/example/ariadne/ariadne/algo/SplitSearchMarkPinLaw" = some m.cls := findClass_of_methodNamed Bd.named
  have hnm := (name_of_methodNamed Bd.named Bd.method).1
  have X0 : Stand p l e room_1 s m #[(.int p1), (.int p2), (.int p3), (.int p4), (.int p5)] below meth c s₁ [] 0 0 := Stand.of_body Bd
  have e0 : s₁.heap = h0 := by rw [← hh, Bd.state]; rfl
  have N0 := Fr.nil n0
  have k0 : ∀ t, Steps p.tables e below (s₁.setTop (mkF m 0 #[.val (.int p1), .val (.int p2), .val (.int p3), .val (.int p4), .val (.int p5), .unset, .unset, .unset, .unset, .unset, .unset, .unset, .unset, .unset, .unset, .unset, .unset, .unset, .unset, .unset] [])) t → Steps p.tables e below (s₁.setTop (entryFrame m #[(.int p1), (.int p2), (.int p3), (.int p4), (.int p5)] maxLocals)) t := fun t k => castTop (ef_law m p1 p2 p3 p4 p5) k
  have k1 : ∀ t, Steps p.tables e below (s₁.setTop (mkF m 8 #[.val (.int p1), .val (.int p2), .val (.int p3), .val (.int p4), .val (.int p5), .val (.int ((p1 &&& (2147483647 : Int32)) - ((p1 &&& (2147483647 : Int32)) / (3 : Int32)) * (3 : Int32))), .unset, .unset, .unset, .unset, .unset, .unset, .unset, .unset, .unset, .unset, .unset, .unset, .unset, .unset] [])) t → Steps p.tables e below (s₁.setTop (entryFrame m #[(.int p1), (.int p2), (.int p3), (.int p4), (.int p5)] maxLocals)) t := fun t k => k0 t (by
    show Steps p.tables e below (s₁.setTop (mkF m 0 #[.val (.int p1), .val (.int p2), .val (.int p3), .val (.int p4), .val (.int p5), .unset, .unset, .unset, .unset, .unset, .unset, .unset, .unset, .unset, .unset, .unset, .unset, .unset, .unset, .unset] [])) _
    refine XS.iloadN X0.here hx rfl (hb hby at_0) rfl ?_
    show Steps p.tables e below (s₁.setTop (mkF m 1 #[.val (.int p1), .val (.int p2), .val (.int p3), .val (.int p4), .val (.int p5), .unset, .unset, .unset, .unset, .unset, .unset, .unset, .unset, .unset, .unset, .unset, .unset, .unset, .unset, .unset] [(.int p1)])) _
    refine X0.ldcInt hx hown (mvT hZ (hw _ (List.mem_of_getElem? (i := 0) rfl))) (g := (mkF m 1 #[.val (.int p1), .val (.int p2), .val (.int p3), .val (.int p4), .val (.int p5), .unset, .unset, .unset, .unset, .unset, .unset, .unset, .unset, .unset, .unset, .unset, .unset, .unset, .unset, .unset] [(.int p1)])) rfl (hb hby at_1) _ ?_
    show Steps p.tables e below (s₁.setTop (mkF m 3 #[.val (.int p1), .val (.int p2), .val (.int p3), .val (.int p4), .val (.int p5), .unset, .unset, .unset, .unset, .unset, .unset, .unset, .unset, .unset, .unset, .unset, .unset, .unset, .unset, .unset] [(.int (2147483647 : Int32)), (.int p1)])) _
    refine XS.iand X0.here hx rfl (hb hby at_3) rfl ?_
    show Steps p.tables e below (s₁.setTop (mkF m 4 #[.val (.int p1), .val (.int p2), .val (.int p3), .val (.int p4), .val (.int p5), .unset, .unset, .unset, .unset, .unset, .unset, .unset, .unset, .unset, .unset, .unset, .unset, .unset, .unset, .unset] [(.int (p1 &&& (2147483647 : Int32)))])) _
    refine XS.iconst X0.here hx rfl (hb hby at_4) ?_
    show Steps p.tables e below (s₁.setTop (mkF m 5 #[.val (.int p1), .val (.int p2), .val (.int p3), .val (.int p4), .val (.int p5), .unset, .unset, .unset, .unset, .unset, .unset, .unset, .unset, .unset, .unset, .unset, .unset, .unset, .unset, .unset] [(.int (3 : Int32)), (.int (p1 &&& (2147483647 : Int32)))])) _
    refine XS.irem X0.here hx rfl (hb hby at_5) rfl (by decide) ?_
    show Steps p.tables e below (s₁.setTop (mkF m 6 #[.val (.int p1), .val (.int p2), .val (.int p3), .val (.int p4), .val (.int p5), .unset, .unset, .unset, .unset, .unset, .unset, .unset, .unset, .unset, .unset, .unset, .unset, .unset, .unset, .unset] [(.int ((p1 &&& (2147483647 : Int32)) - ((p1 &&& (2147483647 : Int32)) / (3 : Int32)) * (3 : Int32)))])) _
    refine XS.istore X0.here hx rfl (hb hby at_6) rfl (l' := #[.val (.int p1), .val (.int p2), .val (.int p3), .val (.int p4), .val (.int p5), .val (.int ((p1 &&& (2147483647 : Int32)) - ((p1 &&& (2147483647 : Int32)) / (3 : Int32)) * (3 : Int32))), .unset, .unset, .unset, .unset, .unset, .unset, .unset, .unset, .unset, .unset, .unset, .unset, .unset, .unset]) rfl ?_
    exact k)
  obtain ⟨s0, hd_s0⟩ : ∃ z : Int32, z = ((p1 &&& (2147483647 : Int32)) - ((p1 &&& (2147483647 : Int32)) / (3 : Int32)) * (3 : Int32)) := ⟨_, rfl⟩
  have k2 : ∀ t, Steps p.tables e below (s₁.setTop (mkF m 8 #[.val (.int p1), .val (.int p2), .val (.int p3), .val (.int p4), .val (.int p5), .val (.int s0), .unset, .unset, .unset, .unset, .unset, .unset, .unset, .unset, .unset, .unset, .unset, .unset, .unset, .unset] [])) t → Steps p.tables e below (s₁.setTop (entryFrame m #[(.int p1), (.int p2), (.int p3), (.int p4), (.int p5)] maxLocals)) t := by rw [hd_s0]; exact k1
  have hs0 : s0 = 0 ∨ s0 = 1 ∨ s0 = 2 := by rw [hd_s0]; exact own_mod3 p1
  obtain ⟨yb, hyb⟩ : ∃ z : Int32, z = (p2 &&& (1 : Int32)) := ⟨_, rfl⟩
  have hy : yb = 0 ∨ yb = 1 := by rw [hyb]; exact own_and1 p2
  have k3 : ∀ t, Steps p.tables e below (s₁.setTop (mkF m 20 #[.val (.int p1), .val (.int p2), .val (.int p3), .val (.int p4), .val (.int p5), .val (.int s0), .val (.int (((s0 + (1 : Int32)) + (p2 &&& (1 : Int32))) - (((s0 + (1 : Int32)) + (p2 &&& (1 : Int32))) / (3 : Int32)) * (3 : Int32))), .unset, .unset, .unset, .unset, .unset, .unset, .unset, .unset, .unset, .unset, .unset, .unset, .unset] [])) t → Steps p.tables e below (s₁.setTop (entryFrame m #[(.int p1), (.int p2), (.int p3), (.int p4), (.int p5)] maxLocals)) t := fun t k => k2 t (by
    show Steps p.tables e below (s₁.setTop (mkF m 8 #[.val (.int p1), .val (.int p2), .val (.int p3), .val (.int p4), .val (.int p5), .val (.int s0), .unset, .unset, .unset, .unset, .unset, .unset, .unset, .unset, .unset, .unset, .unset, .unset, .unset, .unset] [])) _
    refine XS.iload X0.here hx rfl (hb hby at_8) rfl ?_
    show Steps p.tables e below (s₁.setTop (mkF m 10 #[.val (.int p1), .val (.int p2), .val (.int p3), .val (.int p4), .val (.int p5), .val (.int s0), .unset, .unset, .unset, .unset, .unset, .unset, .unset, .unset, .unset, .unset, .unset, .unset, .unset, .unset] [(.int s0)])) _
    refine XS.iconst X0.here hx rfl (hb hby at_10) ?_
    show Steps p.tables e below (s₁.setTop (mkF m 11 #[.val (.int p1), .val (.int p2), .val (.int p3), .val (.int p4), .val (.int p5), .val (.int s0), .unset, .unset, .unset, .unset, .unset, .unset, .unset, .unset, .unset, .unset, .unset, .unset, .unset, .unset] [(.int (1 : Int32)), (.int s0)])) _
    refine XS.iadd X0.here hx rfl (hb hby at_11) rfl ?_
    show Steps p.tables e below (s₁.setTop (mkF m 12 #[.val (.int p1), .val (.int p2), .val (.int p3), .val (.int p4), .val (.int p5), .val (.int s0), .unset, .unset, .unset, .unset, .unset, .unset, .unset, .unset, .unset, .unset, .unset, .unset, .unset, .unset] [(.int (s0 + (1 : Int32)))])) _
    refine XS.iloadN X0.here hx rfl (hb hby at_12) rfl ?_
    show Steps p.tables e below (s₁.setTop (mkF m 13 #[.val (.int p1), .val (.int p2), .val (.int p3), .val (.int p4), .val (.int p5), .val (.int s0), .unset, .unset, .unset, .unset, .unset, .unset, .unset, .unset, .unset, .unset, .unset, .unset, .unset, .unset] [(.int p2), (.int (s0 + (1 : Int32)))])) _
    refine XS.iconst X0.here hx rfl (hb hby at_13) ?_
    show Steps p.tables e below (s₁.setTop (mkF m 14 #[.val (.int p1), .val (.int p2), .val (.int p3), .val (.int p4), .val (.int p5), .val (.int s0), .unset, .unset, .unset, .unset, .unset, .unset, .unset, .unset, .unset, .unset, .unset, .unset, .unset, .unset] [(.int (1 : Int32)), (.int p2), (.int (s0 + (1 : Int32)))])) _
    refine XS.iand X0.here hx rfl (hb hby at_14) rfl ?_
    show Steps p.tables e below (s₁.setTop (mkF m 15 #[.val (.int p1), .val (.int p2), .val (.int p3), .val (.int p4), .val (.int p5), .val (.int s0), .unset, .unset, .unset, .unset, .unset, .unset, .unset, .unset, .unset, .unset, .unset, .unset, .unset, .unset] [(.int (p2 &&& (1 : Int32))), (.int (s0 + (1 : Int32)))])) _
    refine XS.iadd X0.here hx rfl (hb hby at_15) rfl ?_
    show Steps p.tables e below (s₁.setTop (mkF m 16 #[.val (.int p1), .val (.int p2), .val (.int p3), .val (.int p4), .val (.int p5), .val (.int s0), .unset, .unset, .unset, .unset, .unset, .unset, .unset, .unset, .unset, .unset, .unset, .unset, .unset, .unset] [(.int ((s0 + (1 : Int32)) + (p2 &&& (1 : Int32))))])) _
    refine XS.iconst X0.here hx rfl (hb hby at_16) ?_
    show Steps p.tables e below (s₁.setTop (mkF m 17 #[.val (.int p1), .val (.int p2), .val (.int p3), .val (.int p4), .val (.int p5), .val (.int s0), .unset, .unset, .unset, .unset, .unset, .unset, .unset, .unset, .unset, .unset, .unset, .unset, .unset, .unset] [(.int (3 : Int32)), (.int ((s0 + (1 : Int32)) + (p2 &&& (1 : Int32))))])) _
    refine XS.irem X0.here hx rfl (hb hby at_17) rfl (by decide) ?_
    show Steps p.tables e below (s₁.setTop (mkF m 18 #[.val (.int p1), .val (.int p2), .val (.int p3), .val (.int p4), .val (.int p5), .val (.int s0), .unset, .unset, .unset, .unset, .unset, .unset, .unset, .unset, .unset, .unset, .unset, .unset, .unset, .unset] [(.int (((s0 + (1 : Int32)) + (p2 &&& (1 : Int32))) - (((s0 + (1 : Int32)) + (p2 &&& (1 : Int32))) / (3 : Int32)) * (3 : Int32)))])) _
    refine XS.istore X0.here hx rfl (hb hby at_18) rfl (l' := #[.val (.int p1), .val (.int p2), .val (.int p3), .val (.int p4), .val (.int p5), .val (.int s0), .val (.int (((s0 + (1 : Int32)) + (p2 &&& (1 : Int32))) - (((s0 + (1 : Int32)) + (p2 &&& (1 : Int32))) / (3 : Int32)) * (3 : Int32))), .unset, .unset, .unset, .unset, .unset, .unset, .unset, .unset, .unset, .unset, .unset, .unset, .unset]) rfl ?_
    exact k)
  obtain ⟨s1, hd_s1⟩ : ∃ z : Int32, z = (((s0 + (1 : Int32)) + (p2 &&& (1 : Int32))) - (((s0 + (1 : Int32)) + (p2 &&& (1 : Int32))) / (3 : Int32)) * (3 : Int32)) := ⟨_, rfl⟩
  have k4 : ∀ t, Steps p.tables e below (s₁.setTop (mkF m 20 #[.val (.int p1), .val (.int p2), .val (.int p3), .val (.int p4), .val (.int p5), .val (.int s0), .val (.int s1), .unset, .unset, .unset, .unset, .unset, .unset, .unset, .unset, .unset, .unset, .unset, .unset, .unset] [])) t → Steps p.tables e below (s₁.setTop (entryFrame m #[(.int p1), (.int p2), (.int p3), (.int p4), (.int p5)] maxLocals)) t := by rw [hd_s1]; exact k3
  have k5 : ∀ t, Steps p.tables e below (s₁.setTop (mkF m 29 #[.val (.int p1), .val (.int p2), .val (.int p3), .val (.int p4), .val (.int p5), .val (.int s0), .val (.int s1), .val (.int (((3 : Int32) - s0) - s1)), .unset, .unset, .unset, .unset, .unset, .unset, .unset, .unset, .unset, .unset, .unset, .unset] [])) t → Steps p.tables e below (s₁.setTop (entryFrame m #[(.int p1), (.int p2), (.int p3), (.int p4), (.int p5)] maxLocals)) t := fun t k => k4 t (by
    show Steps p.tables e below (s₁.setTop (mkF m 20 #[.val (.int p1), .val (.int p2), .val (.int p3), .val (.int p4), .val (.int p5), .val (.int s0), .val (.int s1), .unset, .unset, .unset, .unset, .unset, .unset, .unset, .unset, .unset, .unset, .unset, .unset, .unset] [])) _
    refine XS.iconst X0.here hx rfl (hb hby at_20) ?_
    show Steps p.tables e below (s₁.setTop (mkF m 21 #[.val (.int p1), .val (.int p2), .val (.int p3), .val (.int p4), .val (.int p5), .val (.int s0), .val (.int s1), .unset, .unset, .unset, .unset, .unset, .unset, .unset, .unset, .unset, .unset, .unset, .unset, .unset] [(.int (3 : Int32))])) _
    refine XS.iload X0.here hx rfl (hb hby at_21) rfl ?_
    show Steps p.tables e below (s₁.setTop (mkF m 23 #[.val (.int p1), .val (.int p2), .val (.int p3), .val (.int p4), .val (.int p5), .val (.int s0), .val (.int s1), .unset, .unset, .unset, .unset, .unset, .unset, .unset, .unset, .unset, .unset, .unset, .unset, .unset] [(.int s0), (.int (3 : Int32))])) _
    refine XS.isub X0.here hx rfl (hb hby at_23) rfl ?_
    show Steps p.tables e below (s₁.setTop (mkF m 24 #[.val (.int p1), .val (.int p2), .val (.int p3), .val (.int p4), .val (.int p5), .val (.int s0), .val (.int s1), .unset, .unset, .unset, .unset, .unset, .unset, .unset, .unset, .unset, .unset, .unset, .unset, .unset] [(.int ((3 : Int32) - s0))])) _
    refine XS.iload X0.here hx rfl (hb hby at_24) rfl ?_
    show Steps p.tables e below (s₁.setTop (mkF m 26 #[.val (.int p1), .val (.int p2), .val (.int p3), .val (.int p4), .val (.int p5), .val (.int s0), .val (.int s1), .unset, .unset, .unset, .unset, .unset, .unset, .unset, .unset, .unset, .unset, .unset, .unset, .unset] [(.int s1), (.int ((3 : Int32) - s0))])) _
    refine XS.isub X0.here hx rfl (hb hby at_26) rfl ?_
    show Steps p.tables e below (s₁.setTop (mkF m 27 #[.val (.int p1), .val (.int p2), .val (.int p3), .val (.int p4), .val (.int p5), .val (.int s0), .val (.int s1), .unset, .unset, .unset, .unset, .unset, .unset, .unset, .unset, .unset, .unset, .unset, .unset, .unset] [(.int (((3 : Int32) - s0) - s1))])) _
    refine XS.istore X0.here hx rfl (hb hby at_27) rfl (l' := #[.val (.int p1), .val (.int p2), .val (.int p3), .val (.int p4), .val (.int p5), .val (.int s0), .val (.int s1), .val (.int (((3 : Int32) - s0) - s1)), .unset, .unset, .unset, .unset, .unset, .unset, .unset, .unset, .unset, .unset, .unset, .unset]) rfl ?_
    exact k)
  obtain ⟨s2, hd_s2⟩ : ∃ z : Int32, z = (((3 : Int32) - s0) - s1) := ⟨_, rfl⟩
  have k6 : ∀ t, Steps p.tables e below (s₁.setTop (mkF m 29 #[.val (.int p1), .val (.int p2), .val (.int p3), .val (.int p4), .val (.int p5), .val (.int s0), .val (.int s1), .val (.int s2), .unset, .unset, .unset, .unset, .unset, .unset, .unset, .unset, .unset, .unset, .unset, .unset] [])) t → Steps p.tables e below (s₁.setTop (entryFrame m #[(.int p1), (.int p2), (.int p3), (.int p4), (.int p5)] maxLocals)) t := by rw [hd_s2]; exact k5
  rw [← hyb] at hd_s1
  have hs1 : s1 = 0 ∨ s1 = 1 ∨ s1 = 2 := by rw [hd_s1]; exact own_s1 hs0 hy
  have hs2 : s2 = 0 ∨ s2 = 1 ∨ s2 = 2 := by rw [hd_s2, hd_s1]; exact own_s2 hs0 hy
  have k7 : ∀ t, Steps p.tables e below (s₁.setTop (mkF m 34 #[.val (.int p1), .val (.int p2), .val (.int p3), .val (.int p4), .val (.int p5), .val (.int s0), .val (.int s1), .val (.int s2), .val (.int (p3 &&& (3 : Int32))), .unset, .unset, .unset, .unset, .unset, .unset, .unset, .unset, .unset, .unset, .unset] [])) t → Steps p.tables e below (s₁.setTop (entryFrame m #[(.int p1), (.int p2), (.int p3), (.int p4), (.int p5)] maxLocals)) t := fun t k => k6 t (by
    show Steps p.tables e below (s₁.setTop (mkF m 29 #[.val (.int p1), .val (.int p2), .val (.int p3), .val (.int p4), .val (.int p5), .val (.int s0), .val (.int s1), .val (.int s2), .unset, .unset, .unset, .unset, .unset, .unset, .unset, .unset, .unset, .unset, .unset, .unset] [])) _
    refine XS.iloadN X0.here hx rfl (hb hby at_29) rfl ?_
    show Steps p.tables e below (s₁.setTop (mkF m 30 #[.val (.int p1), .val (.int p2), .val (.int p3), .val (.int p4), .val (.int p5), .val (.int s0), .val (.int s1), .val (.int s2), .unset, .unset, .unset, .unset, .unset, .unset, .unset, .unset, .unset, .unset, .unset, .unset] [(.int p3)])) _
    refine XS.iconst X0.here hx rfl (hb hby at_30) ?_
    show Steps p.tables e below (s₁.setTop (mkF m 31 #[.val (.int p1), .val (.int p2), .val (.int p3), .val (.int p4), .val (.int p5), .val (.int s0), .val (.int s1), .val (.int s2), .unset, .unset, .unset, .unset, .unset, .unset, .unset, .unset, .unset, .unset, .unset, .unset] [(.int (3 : Int32)), (.int p3)])) _
    refine XS.iand X0.here hx rfl (hb hby at_31) rfl ?_
    show Steps p.tables e below (s₁.setTop (mkF m 32 #[.val (.int p1), .val (.int p2), .val (.int p3), .val (.int p4), .val (.int p5), .val (.int s0), .val (.int s1), .val (.int s2), .unset, .unset, .unset, .unset, .unset, .unset, .unset, .unset, .unset, .unset, .unset, .unset] [(.int (p3 &&& (3 : Int32)))])) _
    refine XS.istore X0.here hx rfl (hb hby at_32) rfl (l' := #[.val (.int p1), .val (.int p2), .val (.int p3), .val (.int p4), .val (.int p5), .val (.int s0), .val (.int s1), .val (.int s2), .val (.int (p3 &&& (3 : Int32))), .unset, .unset, .unset, .unset, .unset, .unset, .unset, .unset, .unset, .unset, .unset]) rfl ?_
    exact k)
  obtain ⟨nn, hd_nn⟩ : ∃ z : Int32, z = (p3 &&& (3 : Int32)) := ⟨_, rfl⟩
  have k8 : ∀ t, Steps p.tables e below (s₁.setTop (mkF m 34 #[.val (.int p1), .val (.int p2), .val (.int p3), .val (.int p4), .val (.int p5), .val (.int s0), .val (.int s1), .val (.int s2), .val (.int nn), .unset, .unset, .unset, .unset, .unset, .unset, .unset, .unset, .unset, .unset, .unset] [])) t → Steps p.tables e below (s₁.setTop (entryFrame m #[(.int p1), (.int p2), (.int p3), (.int p4), (.int p5)] maxLocals)) t := by rw [hd_nn]; exact k7
  have hnn : nn = 0 ∨ nn = 1 ∨ nn = 2 ∨ nn = 3 := by rw [hd_nn]; exact own_and3 p3
  obtain ⟨b0, hd_b0⟩ : ∃ z : Int32, z = (if (p4 &&& (1 : Int32)) = (0 : Int32) then (0 : Int32) else (1 : Int32)) := ⟨_, rfl⟩
  have k9 : ∀ t, Steps p.tables e below (s₁.setTop (mkF m 47 #[.val (.int p1), .val (.int p2), .val (.int p3), .val (.int p4), .val (.int p5), .val (.int s0), .val (.int s1), .val (.int s2), .val (.int nn), .val (.int b0), .unset, .unset, .unset, .unset, .unset, .unset, .unset, .unset, .unset, .unset] [])) t → Steps p.tables e below (s₁.setTop (entryFrame m #[(.int p1), (.int p2), (.int p3), (.int p4), (.int p5)] maxLocals)) t := fun t k => k8 t (by
    show Steps p.tables e below (s₁.setTop (mkF m 34 #[.val (.int p1), .val (.int p2), .val (.int p3), .val (.int p4), .val (.int p5), .val (.int s0), .val (.int s1), .val (.int s2), .val (.int nn), .unset, .unset, .unset, .unset, .unset, .unset, .unset, .unset, .unset, .unset, .unset] [])) _
    refine XS.iloadN X0.here hx rfl (hb hby at_34) rfl ?_
    show Steps p.tables e below (s₁.setTop (mkF m 35 #[.val (.int p1), .val (.int p2), .val (.int p3), .val (.int p4), .val (.int p5), .val (.int s0), .val (.int s1), .val (.int s2), .val (.int nn), .unset, .unset, .unset, .unset, .unset, .unset, .unset, .unset, .unset, .unset, .unset] [(.int p4)])) _
    refine XS.iconst X0.here hx rfl (hb hby at_35) ?_
    show Steps p.tables e below (s₁.setTop (mkF m 36 #[.val (.int p1), .val (.int p2), .val (.int p3), .val (.int p4), .val (.int p5), .val (.int s0), .val (.int s1), .val (.int s2), .val (.int nn), .unset, .unset, .unset, .unset, .unset, .unset, .unset, .unset, .unset, .unset, .unset] [(.int (1 : Int32)), (.int p4)])) _
    refine XS.iand X0.here hx rfl (hb hby at_36) rfl ?_
    by_cases c37 : (p4 &&& (1 : Int32)) = (0 : Int32)
    ·
      show Steps p.tables e below (s₁.setTop (mkF m 37 #[.val (.int p1), .val (.int p2), .val (.int p3), .val (.int p4), .val (.int p5), .val (.int s0), .val (.int s1), .val (.int s2), .val (.int nn), .unset, .unset, .unset, .unset, .unset, .unset, .unset, .unset, .unset, .unset, .unset] [(.int (p4 &&& (1 : Int32)))])) _
      refine XS.ifYes X0.here hx rfl (pc0 := 37) (pc' := 44) rfl (hb hby at_37) rfl ((if0 _ _).trans (teq c37).1) (by decide) (by decide) ?_
      show Steps p.tables e below (s₁.setTop (mkF m 44 #[.val (.int p1), .val (.int p2), .val (.int p3), .val (.int p4), .val (.int p5), .val (.int s0), .val (.int s1), .val (.int s2), .val (.int nn), .unset, .unset, .unset, .unset, .unset, .unset, .unset, .unset, .unset, .unset, .unset] [])) _
      refine XS.iconst X0.here hx rfl (hb hby at_44) ?_
      show Steps p.tables e below (s₁.setTop (mkF m 45 #[.val (.int p1), .val (.int p2), .val (.int p3), .val (.int p4), .val (.int p5), .val (.int s0), .val (.int s1), .val (.int s2), .val (.int nn), .unset, .unset, .unset, .unset, .unset, .unset, .unset, .unset, .unset, .unset, .unset] [(.int (0 : Int32))])) _
      refine XS.istore X0.here hx rfl (hb hby at_45) rfl (l' := #[.val (.int p1), .val (.int p2), .val (.int p3), .val (.int p4), .val (.int p5), .val (.int s0), .val (.int s1), .val (.int s2), .val (.int nn), .val (.int (0 : Int32)), .unset, .unset, .unset, .unset, .unset, .unset, .unset, .unset, .unset, .unset]) rfl ?_
      simp only [if_pos c37] at hd_b0
      rw [hd_b0] at k
      exact k
    ·
      show Steps p.tables e below (s₁.setTop (mkF m 37 #[.val (.int p1), .val (.int p2), .val (.int p3), .val (.int p4), .val (.int p5), .val (.int s0), .val (.int s1), .val (.int s2), .val (.int nn), .unset, .unset, .unset, .unset, .unset, .unset, .unset, .unset, .unset, .unset, .unset] [(.int (p4 &&& (1 : Int32)))])) _
      refine XS.ifNo X0.here hx rfl (hb hby at_37) rfl ((if0 _ _).trans (feq c37).1) ?_
      show Steps p.tables e below (s₁.setTop (mkF m 40 #[.val (.int p1), .val (.int p2), .val (.int p3), .val (.int p4), .val (.int p5), .val (.int s0), .val (.int s1), .val (.int s2), .val (.int nn), .unset, .unset, .unset, .unset, .unset, .unset, .unset, .unset, .unset, .unset, .unset] [])) _
      refine XS.iconst X0.here hx rfl (hb hby at_40) ?_
      show Steps p.tables e below (s₁.setTop (mkF m 41 #[.val (.int p1), .val (.int p2), .val (.int p3), .val (.int p4), .val (.int p5), .val (.int s0), .val (.int s1), .val (.int s2), .val (.int nn), .unset, .unset, .unset, .unset, .unset, .unset, .unset, .unset, .unset, .unset, .unset] [(.int (1 : Int32))])) _
      refine XS.goto X0.here hx rfl (pc0 := 41) (pc' := 45) rfl (hb hby at_41) (by decide) (by decide) ?_
      show Steps p.tables e below (s₁.setTop (mkF m 45 #[.val (.int p1), .val (.int p2), .val (.int p3), .val (.int p4), .val (.int p5), .val (.int s0), .val (.int s1), .val (.int s2), .val (.int nn), .unset, .unset, .unset, .unset, .unset, .unset, .unset, .unset, .unset, .unset, .unset] [(.int (1 : Int32))])) _
      refine XS.istore X0.here hx rfl (hb hby at_45) rfl (l' := #[.val (.int p1), .val (.int p2), .val (.int p3), .val (.int p4), .val (.int p5), .val (.int s0), .val (.int s1), .val (.int s2), .val (.int nn), .val (.int (1 : Int32)), .unset, .unset, .unset, .unset, .unset, .unset, .unset, .unset, .unset, .unset]) rfl ?_
      simp only [if_neg c37] at hd_b0
      rw [hd_b0] at k
      exact k)
  have hb0 : b0 = 0 ∨ b0 = 1 := own_bool hd_b0
  obtain ⟨b1, hd_b1⟩ : ∃ z : Int32, z = (if (p4 &&& (2 : Int32)) = (0 : Int32) then (0 : Int32) else (1 : Int32)) := ⟨_, rfl⟩
  have k10 : ∀ t, Steps p.tables e below (s₁.setTop (mkF m 60 #[.val (.int p1), .val (.int p2), .val (.int p3), .val (.int p4), .val (.int p5), .val (.int s0), .val (.int s1), .val (.int s2), .val (.int nn), .val (.int b0), .val (.int b1), .unset, .unset, .unset, .unset, .unset, .unset, .unset, .unset, .unset] [])) t → Steps p.tables e below (s₁.setTop (entryFrame m #[(.int p1), (.int p2), (.int p3), (.int p4), (.int p5)] maxLocals)) t := fun t k => k9 t (by
    show Steps p.tables e below (s₁.setTop (mkF m 47 #[.val (.int p1), .val (.int p2), .val (.int p3), .val (.int p4), .val (.int p5), .val (.int s0), .val (.int s1), .val (.int s2), .val (.int nn), .val (.int b0), .unset, .unset, .unset, .unset, .unset, .unset, .unset, .unset, .unset, .unset] [])) _
    refine XS.iloadN X0.here hx rfl (hb hby at_47) rfl ?_
    show Steps p.tables e below (s₁.setTop (mkF m 48 #[.val (.int p1), .val (.int p2), .val (.int p3), .val (.int p4), .val (.int p5), .val (.int s0), .val (.int s1), .val (.int s2), .val (.int nn), .val (.int b0), .unset, .unset, .unset, .unset, .unset, .unset, .unset, .unset, .unset, .unset] [(.int p4)])) _
    refine XS.iconst X0.here hx rfl (hb hby at_48) ?_
    show Steps p.tables e below (s₁.setTop (mkF m 49 #[.val (.int p1), .val (.int p2), .val (.int p3), .val (.int p4), .val (.int p5), .val (.int s0), .val (.int s1), .val (.int s2), .val (.int nn), .val (.int b0), .unset, .unset, .unset, .unset, .unset, .unset, .unset, .unset, .unset, .unset] [(.int (2 : Int32)), (.int p4)])) _
    refine XS.iand X0.here hx rfl (hb hby at_49) rfl ?_
    by_cases c50 : (p4 &&& (2 : Int32)) = (0 : Int32)
    ·
      show Steps p.tables e below (s₁.setTop (mkF m 50 #[.val (.int p1), .val (.int p2), .val (.int p3), .val (.int p4), .val (.int p5), .val (.int s0), .val (.int s1), .val (.int s2), .val (.int nn), .val (.int b0), .unset, .unset, .unset, .unset, .unset, .unset, .unset, .unset, .unset, .unset] [(.int (p4 &&& (2 : Int32)))])) _
      refine XS.ifYes X0.here hx rfl (pc0 := 50) (pc' := 57) rfl (hb hby at_50) rfl ((if0 _ _).trans (teq c50).1) (by decide) (by decide) ?_
      show Steps p.tables e below (s₁.setTop (mkF m 57 #[.val (.int p1), .val (.int p2), .val (.int p3), .val (.int p4), .val (.int p5), .val (.int s0), .val (.int s1), .val (.int s2), .val (.int nn), .val (.int b0), .unset, .unset, .unset, .unset, .unset, .unset, .unset, .unset, .unset, .unset] [])) _
      refine XS.iconst X0.here hx rfl (hb hby at_57) ?_
      show Steps p.tables e below (s₁.setTop (mkF m 58 #[.val (.int p1), .val (.int p2), .val (.int p3), .val (.int p4), .val (.int p5), .val (.int s0), .val (.int s1), .val (.int s2), .val (.int nn), .val (.int b0), .unset, .unset, .unset, .unset, .unset, .unset, .unset, .unset, .unset, .unset] [(.int (0 : Int32))])) _
      refine XS.istore X0.here hx rfl (hb hby at_58) rfl (l' := #[.val (.int p1), .val (.int p2), .val (.int p3), .val (.int p4), .val (.int p5), .val (.int s0), .val (.int s1), .val (.int s2), .val (.int nn), .val (.int b0), .val (.int (0 : Int32)), .unset, .unset, .unset, .unset, .unset, .unset, .unset, .unset, .unset]) rfl ?_
      simp only [if_pos c50] at hd_b1
      rw [hd_b1] at k
      exact k
    ·
      show Steps p.tables e below (s₁.setTop (mkF m 50 #[.val (.int p1), .val (.int p2), .val (.int p3), .val (.int p4), .val (.int p5), .val (.int s0), .val (.int s1), .val (.int s2), .val (.int nn), .val (.int b0), .unset, .unset, .unset, .unset, .unset, .unset, .unset, .unset, .unset, .unset] [(.int (p4 &&& (2 : Int32)))])) _
      refine XS.ifNo X0.here hx rfl (hb hby at_50) rfl ((if0 _ _).trans (feq c50).1) ?_
      show Steps p.tables e below (s₁.setTop (mkF m 53 #[.val (.int p1), .val (.int p2), .val (.int p3), .val (.int p4), .val (.int p5), .val (.int s0), .val (.int s1), .val (.int s2), .val (.int nn), .val (.int b0), .unset, .unset, .unset, .unset, .unset, .unset, .unset, .unset, .unset, .unset] [])) _
      refine XS.iconst X0.here hx rfl (hb hby at_53) ?_
      show Steps p.tables e below (s₁.setTop (mkF m 54 #[.val (.int p1), .val (.int p2), .val (.int p3), .val (.int p4), .val (.int p5), .val (.int s0), .val (.int s1), .val (.int s2), .val (.int nn), .val (.int b0), .unset, .unset, .unset, .unset, .unset, .unset, .unset, .unset, .unset, .unset] [(.int (1 : Int32))])) _
      refine XS.goto X0.here hx rfl (pc0 := 54) (pc' := 58) rfl (hb hby at_54) (by decide) (by decide) ?_
      show Steps p.tables e below (s₁.setTop (mkF m 58 #[.val (.int p1), .val (.int p2), .val (.int p3), .val (.int p4), .val (.int p5), .val (.int s0), .val (.int s1), .val (.int s2), .val (.int nn), .val (.int b0), .unset, .unset, .unset, .unset, .unset, .unset, .unset, .unset, .unset, .unset] [(.int (1 : Int32))])) _
      refine XS.istore X0.here hx rfl (hb hby at_58) rfl (l' := #[.val (.int p1), .val (.int p2), .val (.int p3), .val (.int p4), .val (.int p5), .val (.int s0), .val (.int s1), .val (.int s2), .val (.int nn), .val (.int b0), .val (.int (1 : Int32)), .unset, .unset, .unset, .unset, .unset, .unset, .unset, .unset, .unset]) rfl ?_
      simp only [if_neg c50] at hd_b1
      rw [hd_b1] at k
      exact k)
  have hb1 : b1 = 0 ∨ b1 = 1 := own_bool hd_b1
  obtain ⟨b2, hd_b2⟩ : ∃ z : Int32, z = (if (p4 &&& (4 : Int32)) = (0 : Int32) then (0 : Int32) else (1 : Int32)) := ⟨_, rfl⟩
  have k11 : ∀ t, Steps p.tables e below (s₁.setTop (mkF m 73 #[.val (.int p1), .val (.int p2), .val (.int p3), .val (.int p4), .val (.int p5), .val (.int s0), .val (.int s1), .val (.int s2), .val (.int nn), .val (.int b0), .val (.int b1), .val (.int b2), .unset, .unset, .unset, .unset, .unset, .unset, .unset, .unset] [])) t → Steps p.tables e below (s₁.setTop (entryFrame m #[(.int p1), (.int p2), (.int p3), (.int p4), (.int p5)] maxLocals)) t := fun t k => k10 t (by
    show Steps p.tables e below (s₁.setTop (mkF m 60 #[.val (.int p1), .val (.int p2), .val (.int p3), .val (.int p4), .val (.int p5), .val (.int s0), .val (.int s1), .val (.int s2), .val (.int nn), .val (.int b0), .val (.int b1), .unset, .unset, .unset, .unset, .unset, .unset, .unset, .unset, .unset] [])) _
    refine XS.iloadN X0.here hx rfl (hb hby at_60) rfl ?_
    show Steps p.tables e below (s₁.setTop (mkF m 61 #[.val (.int p1), .val (.int p2), .val (.int p3), .val (.int p4), .val (.int p5), .val (.int s0), .val (.int s1), .val (.int s2), .val (.int nn), .val (.int b0), .val (.int b1), .unset, .unset, .unset, .unset, .unset, .unset, .unset, .unset, .unset] [(.int p4)])) _
    refine XS.iconst X0.here hx rfl (hb hby at_61) ?_
    show Steps p.tables e below (s₁.setTop (mkF m 62 #[.val (.int p1), .val (.int p2), .val (.int p3), .val (.int p4), .val (.int p5), .val (.int s0), .val (.int s1), .val (.int s2), .val (.int nn), .val (.int b0), .val (.int b1), .unset, .unset, .unset, .unset, .unset, .unset, .unset, .unset, .unset] [(.int (4 : Int32)), (.int p4)])) _
    refine XS.iand X0.here hx rfl (hb hby at_62) rfl ?_
    by_cases c63 : (p4 &&& (4 : Int32)) = (0 : Int32)
    ·
      show Steps p.tables e below (s₁.setTop (mkF m 63 #[.val (.int p1), .val (.int p2), .val (.int p3), .val (.int p4), .val (.int p5), .val (.int s0), .val (.int s1), .val (.int s2), .val (.int nn), .val (.int b0), .val (.int b1), .unset, .unset, .unset, .unset, .unset, .unset, .unset, .unset, .unset] [(.int (p4 &&& (4 : Int32)))])) _
      refine XS.ifYes X0.here hx rfl (pc0 := 63) (pc' := 70) rfl (hb hby at_63) rfl ((if0 _ _).trans (teq c63).1) (by decide) (by decide) ?_
      show Steps p.tables e below (s₁.setTop (mkF m 70 #[.val (.int p1), .val (.int p2), .val (.int p3), .val (.int p4), .val (.int p5), .val (.int s0), .val (.int s1), .val (.int s2), .val (.int nn), .val (.int b0), .val (.int b1), .unset, .unset, .unset, .unset, .unset, .unset, .unset, .unset, .unset] [])) _
      refine XS.iconst X0.here hx rfl (hb hby at_70) ?_
      show Steps p.tables e below (s₁.setTop (mkF m 71 #[.val (.int p1), .val (.int p2), .val (.int p3), .val (.int p4), .val (.int p5), .val (.int s0), .val (.int s1), .val (.int s2), .val (.int nn), .val (.int b0), .val (.int b1), .unset, .unset, .unset, .unset, .unset, .unset, .unset, .unset, .unset] [(.int (0 : Int32))])) _
      refine XS.istore X0.here hx rfl (hb hby at_71) rfl (l' := #[.val (.int p1), .val (.int p2), .val (.int p3), .val (.int p4), .val (.int p5), .val (.int s0), .val (.int s1), .val (.int s2), .val (.int nn), .val (.int b0), .val (.int b1), .val (.int (0 : Int32)), .unset, .unset, .unset, .unset, .unset, .unset, .unset, .unset]) rfl ?_
      simp only [if_pos c63] at hd_b2
      rw [hd_b2] at k
      exact k
    ·
      show Steps p.tables e below (s₁.setTop (mkF m 63 #[.val (.int p1), .val (.int p2), .val (.int p3), .val (.int p4), .val (.int p5), .val (.int s0), .val (.int s1), .val (.int s2), .val (.int nn), .val (.int b0), .val (.int b1), .unset, .unset, .unset, .unset, .unset, .unset, .unset, .unset, .unset] [(.int (p4 &&& (4 : Int32)))])) _
      refine XS.ifNo X0.here hx rfl (hb hby at_63) rfl ((if0 _ _).trans (feq c63).1) ?_
      show Steps p.tables e below (s₁.setTop (mkF m 66 #[.val (.int p1), .val (.int p2), .val (.int p3), .val (.int p4), .val (.int p5), .val (.int s0), .val (.int s1), .val (.int s2), .val (.int nn), .val (.int b0), .val (.int b1), .unset, .unset, .unset, .unset, .unset, .unset, .unset, .unset, .unset] [])) _
      refine XS.iconst X0.here hx rfl (hb hby at_66) ?_
      show Steps p.tables e below (s₁.setTop (mkF m 67 #[.val (.int p1), .val (.int p2), .val (.int p3), .val (.int p4), .val (.int p5), .val (.int s0), .val (.int s1), .val (.int s2), .val (.int nn), .val (.int b0), .val (.int b1), .unset, .unset, .unset, .unset, .unset, .unset, .unset, .unset, .unset] [(.int (1 : Int32))])) _
      refine XS.goto X0.here hx rfl (pc0 := 67) (pc' := 71) rfl (hb hby at_67) (by decide) (by decide) ?_
      show Steps p.tables e below (s₁.setTop (mkF m 71 #[.val (.int p1), .val (.int p2), .val (.int p3), .val (.int p4), .val (.int p5), .val (.int s0), .val (.int s1), .val (.int s2), .val (.int nn), .val (.int b0), .val (.int b1), .unset, .unset, .unset, .unset, .unset, .unset, .unset, .unset, .unset] [(.int (1 : Int32))])) _
      refine XS.istore X0.here hx rfl (hb hby at_71) rfl (l' := #[.val (.int p1), .val (.int p2), .val (.int p3), .val (.int p4), .val (.int p5), .val (.int s0), .val (.int s1), .val (.int s2), .val (.int nn), .val (.int b0), .val (.int b1), .val (.int (1 : Int32)), .unset, .unset, .unset, .unset, .unset, .unset, .unset, .unset]) rfl ?_
      simp only [if_neg c63] at hd_b2
      rw [hd_b2] at k
      exact k)
  have hb2 : b2 = 0 ∨ b2 = 1 := own_bool hd_b2
  obtain ⟨bp, hd_bp⟩ : ∃ z : Int32, z = (if (p4 &&& (8 : Int32)) = (0 : Int32) then (0 : Int32) else (1 : Int32)) := ⟨_, rfl⟩
  have k12 : ∀ t, Steps p.tables e below (s₁.setTop (mkF m 87 #[.val (.int p1), .val (.int p2), .val (.int p3), .val (.int p4), .val (.int p5), .val (.int s0), .val (.int s1), .val (.int s2), .val (.int nn), .val (.int b0), .val (.int b1), .val (.int b2), .val (.int bp), .unset, .unset, .unset, .unset, .unset, .unset, .unset] [])) t → Steps p.tables e below (s₁.setTop (entryFrame m #[(.int p1), (.int p2), (.int p3), (.int p4), (.int p5)] maxLocals)) t := fun t k => k11 t (by
    show Steps p.tables e below (s₁.setTop (mkF m 73 #[.val (.int p1), .val (.int p2), .val (.int p3), .val (.int p4), .val (.int p5), .val (.int s0), .val (.int s1), .val (.int s2), .val (.int nn), .val (.int b0), .val (.int b1), .val (.int b2), .unset, .unset, .unset, .unset, .unset, .unset, .unset, .unset] [])) _
    refine XS.iloadN X0.here hx rfl (hb hby at_73) rfl ?_
    show Steps p.tables e below (s₁.setTop (mkF m 74 #[.val (.int p1), .val (.int p2), .val (.int p3), .val (.int p4), .val (.int p5), .val (.int s0), .val (.int s1), .val (.int s2), .val (.int nn), .val (.int b0), .val (.int b1), .val (.int b2), .unset, .unset, .unset, .unset, .unset, .unset, .unset, .unset] [(.int p4)])) _
    refine XS.bipush X0.here hx rfl (hb hby at_74) ?_
    show Steps p.tables e below (s₁.setTop (mkF m 76 #[.val (.int p1), .val (.int p2), .val (.int p3), .val (.int p4), .val (.int p5), .val (.int s0), .val (.int s1), .val (.int s2), .val (.int nn), .val (.int b0), .val (.int b1), .val (.int b2), .unset, .unset, .unset, .unset, .unset, .unset, .unset, .unset] [(.int (8 : Int32)), (.int p4)])) _
    refine XS.iand X0.here hx rfl (hb hby at_76) rfl ?_
    by_cases c77 : (p4 &&& (8 : Int32)) = (0 : Int32)
    ·
      show Steps p.tables e below (s₁.setTop (mkF m 77 #[.val (.int p1), .val (.int p2), .val (.int p3), .val (.int p4), .val (.int p5), .val (.int s0), .val (.int s1), .val (.int s2), .val (.int nn), .val (.int b0), .val (.int b1), .val (.int b2), .unset, .unset, .unset, .unset, .unset, .unset, .unset, .unset] [(.int (p4 &&& (8 : Int32)))])) _
      refine XS.ifYes X0.here hx rfl (pc0 := 77) (pc' := 84) rfl (hb hby at_77) rfl ((if0 _ _).trans (teq c77).1) (by decide) (by decide) ?_
      show Steps p.tables e below (s₁.setTop (mkF m 84 #[.val (.int p1), .val (.int p2), .val (.int p3), .val (.int p4), .val (.int p5), .val (.int s0), .val (.int s1), .val (.int s2), .val (.int nn), .val (.int b0), .val (.int b1), .val (.int b2), .unset, .unset, .unset, .unset, .unset, .unset, .unset, .unset] [])) _
      refine XS.iconst X0.here hx rfl (hb hby at_84) ?_
      show Steps p.tables e below (s₁.setTop (mkF m 85 #[.val (.int p1), .val (.int p2), .val (.int p3), .val (.int p4), .val (.int p5), .val (.int s0), .val (.int s1), .val (.int s2), .val (.int nn), .val (.int b0), .val (.int b1), .val (.int b2), .unset, .unset, .unset, .unset, .unset, .unset, .unset, .unset] [(.int (0 : Int32))])) _
      refine XS.istore X0.here hx rfl (hb hby at_85) rfl (l' := #[.val (.int p1), .val (.int p2), .val (.int p3), .val (.int p4), .val (.int p5), .val (.int s0), .val (.int s1), .val (.int s2), .val (.int nn), .val (.int b0), .val (.int b1), .val (.int b2), .val (.int (0 : Int32)), .unset, .unset, .unset, .unset, .unset, .unset, .unset]) rfl ?_
      simp only [if_pos c77] at hd_bp
      rw [hd_bp] at k
      exact k
    ·
      show Steps p.tables e below (s₁.setTop (mkF m 77 #[.val (.int p1), .val (.int p2), .val (.int p3), .val (.int p4), .val (.int p5), .val (.int s0), .val (.int s1), .val (.int s2), .val (.int nn), .val (.int b0), .val (.int b1), .val (.int b2), .unset, .unset, .unset, .unset, .unset, .unset, .unset, .unset] [(.int (p4 &&& (8 : Int32)))])) _
      refine XS.ifNo X0.here hx rfl (hb hby at_77) rfl ((if0 _ _).trans (feq c77).1) ?_
      show Steps p.tables e below (s₁.setTop (mkF m 80 #[.val (.int p1), .val (.int p2), .val (.int p3), .val (.int p4), .val (.int p5), .val (.int s0), .val (.int s1), .val (.int s2), .val (.int nn), .val (.int b0), .val (.int b1), .val (.int b2), .unset, .unset, .unset, .unset, .unset, .unset, .unset, .unset] [])) _
      refine XS.iconst X0.here hx rfl (hb hby at_80) ?_
      show Steps p.tables e below (s₁.setTop (mkF m 81 #[.val (.int p1), .val (.int p2), .val (.int p3), .val (.int p4), .val (.int p5), .val (.int s0), .val (.int s1), .val (.int s2), .val (.int nn), .val (.int b0), .val (.int b1), .val (.int b2), .unset, .unset, .unset, .unset, .unset, .unset, .unset, .unset] [(.int (1 : Int32))])) _
      refine XS.goto X0.here hx rfl (pc0 := 81) (pc' := 85) rfl (hb hby at_81) (by decide) (by decide) ?_
      show Steps p.tables e below (s₁.setTop (mkF m 85 #[.val (.int p1), .val (.int p2), .val (.int p3), .val (.int p4), .val (.int p5), .val (.int s0), .val (.int s1), .val (.int s2), .val (.int nn), .val (.int b0), .val (.int b1), .val (.int b2), .unset, .unset, .unset, .unset, .unset, .unset, .unset, .unset] [(.int (1 : Int32))])) _
      refine XS.istore X0.here hx rfl (hb hby at_85) rfl (l' := #[.val (.int p1), .val (.int p2), .val (.int p3), .val (.int p4), .val (.int p5), .val (.int s0), .val (.int s1), .val (.int s2), .val (.int nn), .val (.int b0), .val (.int b1), .val (.int b2), .val (.int (1 : Int32)), .unset, .unset, .unset, .unset, .unset, .unset, .unset]) rfl ?_
      simp only [if_neg c77] at hd_bp
      rw [hd_bp] at k
      exact k)
  have hbp : bp = 0 ∨ bp = 1 := own_bool hd_bp
  have f0 : own_flag p4 0 = b0 := by rw [hd_b0]; exact own_fl0 p4
  have f1 : own_flag p4 1 = b1 := by rw [hd_b1]; exact own_fl1 p4
  have f2 : own_flag p4 2 = b2 := by rw [hd_b2]; exact own_fl2 p4
  have k13 : ∀ t, Steps p.tables e below (s₁.setTop (mkF m 96 #[.val (.int p1), .val (.int p2), .val (.int p3), .val (.int p4), .val (.int p5), .val (.int s0), .val (.int s1), .val (.int s2), .val (.int nn), .val (.int b0), .val (.int b1), .val (.int b2), .val (.int bp), .val (.int ((p5 &&& (2147483647 : Int32)) - ((p5 &&& (2147483647 : Int32)) / (3 : Int32)) * (3 : Int32))), .unset, .unset, .unset, .unset, .unset, .unset] [])) t → Steps p.tables e below (s₁.setTop (entryFrame m #[(.int p1), (.int p2), (.int p3), (.int p4), (.int p5)] maxLocals)) t := fun t k => k12 t (by
    show Steps p.tables e below (s₁.setTop (mkF m 87 #[.val (.int p1), .val (.int p2), .val (.int p3), .val (.int p4), .val (.int p5), .val (.int s0), .val (.int s1), .val (.int s2), .val (.int nn), .val (.int b0), .val (.int b1), .val (.int b2), .val (.int bp), .unset, .unset, .unset, .unset, .unset, .unset, .unset] [])) _
    refine XS.iload X0.here hx rfl (hb hby at_87) rfl ?_
    show Steps p.tables e below (s₁.setTop (mkF m 89 #[.val (.int p1), .val (.int p2), .val (.int p3), .val (.int p4), .val (.int p5), .val (.int s0), .val (.int s1), .val (.int s2), .val (.int nn), .val (.int b0), .val (.int b1), .val (.int b2), .val (.int bp), .unset, .unset, .unset, .unset, .unset, .unset, .unset] [(.int p5)])) _
    refine X0.ldcInt hx hown (mvT hZ (hw _ (List.mem_of_getElem? (i := 0) rfl))) (g := (mkF m 89 #[.val (.int p1), .val (.int p2), .val (.int p3), .val (.int p4), .val (.int p5), .val (.int s0), .val (.int s1), .val (.int s2), .val (.int nn), .val (.int b0), .val (.int b1), .val (.int b2), .val (.int bp), .unset, .unset, .unset, .unset, .unset, .unset, .unset] [(.int p5)])) rfl (hb hby at_89) _ ?_
    show Steps p.tables e below (s₁.setTop (mkF m 91 #[.val (.int p1), .val (.int p2), .val (.int p3), .val (.int p4), .val (.int p5), .val (.int s0), .val (.int s1), .val (.int s2), .val (.int nn), .val (.int b0), .val (.int b1), .val (.int b2), .val (.int bp), .unset, .unset, .unset, .unset, .unset, .unset, .unset] [(.int (2147483647 : Int32)), (.int p5)])) _
    refine XS.iand X0.here hx rfl (hb hby at_91) rfl ?_
    show Steps p.tables e below (s₁.setTop (mkF m 92 #[.val (.int p1), .val (.int p2), .val (.int p3), .val (.int p4), .val (.int p5), .val (.int s0), .val (.int s1), .val (.int s2), .val (.int nn), .val (.int b0), .val (.int b1), .val (.int b2), .val (.int bp), .unset, .unset, .unset, .unset, .unset, .unset, .unset] [(.int (p5 &&& (2147483647 : Int32)))])) _
    refine XS.iconst X0.here hx rfl (hb hby at_92) ?_
    show Steps p.tables e below (s₁.setTop (mkF m 93 #[.val (.int p1), .val (.int p2), .val (.int p3), .val (.int p4), .val (.int p5), .val (.int s0), .val (.int s1), .val (.int s2), .val (.int nn), .val (.int b0), .val (.int b1), .val (.int b2), .val (.int bp), .unset, .unset, .unset, .unset, .unset, .unset, .unset] [(.int (3 : Int32)), (.int (p5 &&& (2147483647 : Int32)))])) _
    refine XS.irem X0.here hx rfl (hb hby at_93) rfl (by decide) ?_
    show Steps p.tables e below (s₁.setTop (mkF m 94 #[.val (.int p1), .val (.int p2), .val (.int p3), .val (.int p4), .val (.int p5), .val (.int s0), .val (.int s1), .val (.int s2), .val (.int nn), .val (.int b0), .val (.int b1), .val (.int b2), .val (.int bp), .unset, .unset, .unset, .unset, .unset, .unset, .unset] [(.int ((p5 &&& (2147483647 : Int32)) - ((p5 &&& (2147483647 : Int32)) / (3 : Int32)) * (3 : Int32)))])) _
    refine XS.istore X0.here hx rfl (hb hby at_94) rfl (l' := #[.val (.int p1), .val (.int p2), .val (.int p3), .val (.int p4), .val (.int p5), .val (.int s0), .val (.int s1), .val (.int s2), .val (.int nn), .val (.int b0), .val (.int b1), .val (.int b2), .val (.int bp), .val (.int ((p5 &&& (2147483647 : Int32)) - ((p5 &&& (2147483647 : Int32)) / (3 : Int32)) * (3 : Int32))), .unset, .unset, .unset, .unset, .unset, .unset]) rfl ?_
    exact k)
  obtain ⟨pr, hd_pr⟩ : ∃ z : Int32, z = ((p5 &&& (2147483647 : Int32)) - ((p5 &&& (2147483647 : Int32)) / (3 : Int32)) * (3 : Int32)) := ⟨_, rfl⟩
  have k14 : ∀ t, Steps p.tables e below (s₁.setTop (mkF m 96 #[.val (.int p1), .val (.int p2), .val (.int p3), .val (.int p4), .val (.int p5), .val (.int s0), .val (.int s1), .val (.int s2), .val (.int nn), .val (.int b0), .val (.int b1), .val (.int b2), .val (.int bp), .val (.int pr), .unset, .unset, .unset, .unset, .unset, .unset] [])) t → Steps p.tables e below (s₁.setTop (entryFrame m #[(.int p1), (.int p2), (.int p3), (.int p4), (.int p5)] maxLocals)) t := by rw [hd_pr]; exact k13
  have hpr : pr = 0 ∨ pr = 1 ∨ pr = 2 := by rw [hd_pr]; exact own_mod3 p5
  obtain ⟨T15, h15, X15, e15, Ex15, A15, D15, -, st15⟩ := newO X0 hx hZ hown (hw _ (List.mem_of_getElem? (i := 1) rfl)) (hw _ (List.mem_of_getElem? (i := 2) rfl)) (hw _ (List.mem_of_getElem? (i := 3) rfl)) e0 (g := (mkF m 96 #[.val (.int p1), .val (.int p2), .val (.int p3), .val (.int p4), .val (.int p5), .val (.int s0), .val (.int s1), .val (.int s2), .val (.int nn), .val (.int b0), .val (.int b1), .val (.int b2), .val (.int bp), .val (.int pr), .unset, .unset, .unset, .unset, .unset, .unset] [])) rfl (hb hby at_96) (by decide) (by decide)
  obtain ⟨b15, g15⟩ : ∃ z, z = h0.size := ⟨_, rfl⟩
  rw [← g15] at A15 D15 st15
  have sz_b15 : h0.size ≤ b15 := Nat.le_trans (Keep.refl h0 []).1 (Nat.le_of_eq g15.symm)
  have g_b15 : n0 ≤ b15 := Nat.le_trans Z0 sz_b15
  have E16 : Exa Z h15 b15 "com/example/ariadne/ariadne/algo/SplitSearch" := A15
  have F17 : Fld Z h15 b15 "com/example/ariadne/ariadne/algo/SplitSearch" "sources" "[I" .null := D15 (Or.inr (hw _ (List.mem_of_getElem? (i := 12) rfl))) (ty := (.array .int)) (by decide)
  have F18 : Fld Z h15 b15 "com/example/ariadne/ariadne/algo/SplitSearch" "outStart" "[I" .null := D15 (Or.inr (hw _ (List.mem_of_getElem? (i := 14) rfl))) (ty := (.array .int)) (by decide)
  have F19 : Fld Z h15 b15 "com/example/ariadne/ariadne/algo/SplitSearch" "incoming" "[I" .null := D15 (Or.inr (hw _ (List.mem_of_getElem? (i := 16) rfl))) (ty := (.array .int)) (by decide)
  have F20 : Fld Z h15 b15 "com/example/ariadne/ariadne/algo/SplitSearch" "inStart" "[I" .null := D15 (Or.inr (hw _ (List.mem_of_getElem? (i := 18) rfl))) (ty := (.array .int)) (by decide)
  have F21 : Fld Z h15 b15 "com/example/ariadne/ariadne/algo/SplitSearch" "internalInEnd" "[I" .null := D15 (Or.inr (hw _ (List.mem_of_getElem? (i := 20) rfl))) (ty := (.array .int)) (by decide)
  have F22 : Fld Z h15 b15 "com/example/ariadne/ariadne/algo/SplitSearch" "blocks" "Lcom/example/ariadne/ariadne/algo/Blocks;" .null := D15 (Or.inr (hw _ (List.mem_of_getElem? (i := 22) rfl))) (ty := (.object "com/example/ariadne/ariadne/algo/Blocks")) (by decide)
  have F23 : Fld Z h15 b15 "com/example/ariadne/ariadne/algo/SplitSearch" "sets" "Lcom/example/ariadne/ariadne/algo/StepSets;" .null := D15 (Or.inr (hw _ (List.mem_of_getElem? (i := 24) rfl))) (ty := (.object "com/example/ariadne/ariadne/algo/StepSets")) (by decide)
  have F24 : Fld Z h15 b15 "com/example/ariadne/ariadne/algo/SplitSearch" "inertCount" "[I" .null := D15 (Or.inr (hw _ (List.mem_of_getElem? (i := 26) rfl))) (ty := (.array .int)) (by decide)
  have F25 : Fld Z h15 b15 "com/example/ariadne/ariadne/algo/SplitSearch" "reaching" "[I" .null := D15 (Or.inr (hw _ (List.mem_of_getElem? (i := 28) rfl))) (ty := (.array .int)) (by decide)
  have F26 : Fld Z h15 b15 "com/example/ariadne/ariadne/algo/SplitSearch" "rest" "[I" .null := D15 (Or.inr (hw _ (List.mem_of_getElem? (i := 30) rfl))) (ty := (.array .int)) (by decide)
  have F27 : Fld Z h15 b15 "com/example/ariadne/ariadne/algo/SplitSearch" "unknownInert" "[I" .null := D15 (Or.inr (hw _ (List.mem_of_getElem? (i := 32) rfl))) (ty := (.array .int)) (by decide)
  have F28 : Fld Z h15 b15 "com/example/ariadne/ariadne/algo/SplitSearch" "roundMark" "[I" .null := D15 (Or.inr (hw _ (List.mem_of_getElem? (i := 34) rfl))) (ty := (.array .int)) (by decide)
  have F29 : Fld Z h15 b15 "com/example/ariadne/ariadne/algo/SplitSearch" "round" "I" (.int (0 : Int32)) := D15 (Or.inl (hw _ (List.mem_of_getElem? (i := 41) rfl))) (ty := .int) (by decide)
  have F30 : Fld Z h15 b15 "com/example/ariadne/ariadne/algo/SplitSearch" "reachCount" "I" (.int (0 : Int32)) := D15 (Or.inl (hw _ (List.mem_of_getElem? (i := 43) rfl))) (ty := .int) (by decide)
  have F31 : Fld Z h15 b15 "com/example/ariadne/ariadne/algo/SplitSearch" "firstMarked" "I" (.int (0 : Int32)) := D15 (Or.inl (hw _ (List.mem_of_getElem? (i := 45) rfl))) (ty := .int) (by decide)
  have F32 : Fld Z h15 b15 "com/example/ariadne/ariadne/algo/SplitSearch" "restCount" "I" (.int (0 : Int32)) := D15 (Or.inl (hw _ (List.mem_of_getElem? (i := 47) rfl))) (ty := .int) (by decide)
  have K33 : Keep h0 h15 [] := (Keep.refl h0 []).ext Ex15
  obtain ⟨T34, h34, kc34, X34, e34, Ex34, A34, st34⟩ := newP X15 hx hZ (hw _ (List.mem_of_getElem? (i := 4) rfl)) e15 (g := (mkF m 101 #[.val (.int p1), .val (.int p2), .val (.int p3), .val (.int p4), .val (.int p5), .val (.int s0), .val (.int s1), .val (.int s2), .val (.int nn), .val (.int b0), .val (.int b1), .val (.int b2), .val (.int bp), .val (.int pr), .unset, .unset, .unset, .unset, .unset, .unset] [(.int (0 : Int32)), (.ref b15), (.ref b15)])) rfl (hb hby at_101) rfl (by decide) (cap := 0) (by decide) (by decide) (by decide) (by decide)
  obtain ⟨b34, g34⟩ : ∃ z, z = h15.size := ⟨_, rfl⟩
  rw [← g34] at A34 st34
  have sz_b34 : h0.size ≤ b34 := Nat.le_trans K33.1 (Nat.le_of_eq g34.symm)
  have g_b34 : n0 ≤ b34 := Nat.le_trans Z0 sz_b34
  have ne35 : b15 ≠ b34 := Nat.ne_of_lt (Nat.lt_of_lt_of_le E16.lt (Nat.le_of_eq g34.symm))
  have E36 : Exa Z h34 b15 "com/example/ariadne/ariadne/algo/SplitSearch" := E16.ext Ex34
  have F37 : Fld Z h34 b15 "com/example/ariadne/ariadne/algo/SplitSearch" "sources" "[I" .null := F17.ext Ex34
  have F38 : Fld Z h34 b15 "com/example/ariadne/ariadne/algo/SplitSearch" "outStart" "[I" .null := F18.ext Ex34
  have F39 : Fld Z h34 b15 "com/example/ariadne/ariadne/algo/SplitSearch" "incoming" "[I" .null := F19.ext Ex34
  have F40 : Fld Z h34 b15 "com/example/ariadne/ariadne/algo/SplitSearch" "inStart" "[I" .null := F20.ext Ex34
  have F41 : Fld Z h34 b15 "com/example/ariadne/ariadne/algo/SplitSearch" "internalInEnd" "[I" .null := F21.ext Ex34
  have F42 : Fld Z h34 b15 "com/example/ariadne/ariadne/algo/SplitSearch" "blocks" "Lcom/example/ariadne/ariadne/algo/Blocks;" .null := F22.ext Ex34
  have F43 : Fld Z h34 b15 "com/example/ariadne/ariadne/algo/SplitSearch" "sets" "Lcom/example/ariadne/ariadne/algo/StepSets;" .null := F23.ext Ex34
  have F44 : Fld Z h34 b15 "com/example/ariadne/ariadne/algo/SplitSearch" "inertCount" "[I" .null := F24.ext Ex34
  have F45 : Fld Z h34 b15 "com/example/ariadne/ariadne/algo/SplitSearch" "reaching" "[I" .null := F25.ext Ex34
  have F46 : Fld Z h34 b15 "com/example/ariadne/ariadne/algo/SplitSearch" "rest" "[I" .null := F26.ext Ex34
  have F47 : Fld Z h34 b15 "com/example/ariadne/ariadne/algo/SplitSearch" "unknownInert" "[I" .null := F27.ext Ex34
  have F48 : Fld Z h34 b15 "com/example/ariadne/ariadne/algo/SplitSearch" "roundMark" "[I" .null := F28.ext Ex34
  have F49 : Fld Z h34 b15 "com/example/ariadne/ariadne/algo/SplitSearch" "round" "I" (.int (0 : Int32)) := F29.ext Ex34
  have F50 : Fld Z h34 b15 "com/example/ariadne/ariadne/algo/SplitSearch" "reachCount" "I" (.int (0 : Int32)) := F30.ext Ex34
  have F51 : Fld Z h34 b15 "com/example/ariadne/ariadne/algo/SplitSearch" "firstMarked" "I" (.int (0 : Int32)) := F31.ext Ex34
  have F52 : Fld Z h34 b15 "com/example/ariadne/ariadne/algo/SplitSearch" "restCount" "I" (.int (0 : Int32)) := F32.ext Ex34
  have V53 : Arv Z h34 b34 kc34 .int (0 : Int32) [] (defaultValue .int) := Arv.new A34 (by decide)
  have K54 : Keep h0 h34 [] := K33.ext Ex34
  obtain ⟨T55, h55, kc55, X55, e55, Ex55, A55, st55⟩ := newP X34 hx hZ (hw _ (List.mem_of_getElem? (i := 4) rfl)) e34 (g := (mkF m 104 #[.val (.int p1), .val (.int p2), .val (.int p3), .val (.int p4), .val (.int p5), .val (.int s0), .val (.int s1), .val (.int s2), .val (.int nn), .val (.int b0), .val (.int b1), .val (.int b2), .val (.int bp), .val (.int pr), .unset, .unset, .unset, .unset, .unset, .unset] [(.int (1 : Int32)), (.ref b34), (.ref b15), (.ref b15)])) rfl (hb hby at_104) rfl (by decide) (cap := 1) (by decide) (by decide) (by decide) (by decide)
  obtain ⟨b55, g55⟩ : ∃ z, z = h34.size := ⟨_, rfl⟩
  rw [← g55] at A55 st55
  have sz_b55 : h0.size ≤ b55 := Nat.le_trans K54.1 (Nat.le_of_eq g55.symm)
  have g_b55 : n0 ≤ b55 := Nat.le_trans Z0 sz_b55
  have ne56 : b15 ≠ b55 := Nat.ne_of_lt (Nat.lt_of_lt_of_le E36.lt (Nat.le_of_eq g55.symm))
  have E57 : Exa Z h55 b15 "com/example/ariadne/ariadne/algo/SplitSearch" := E36.ext Ex55
  have F58 : Fld Z h55 b15 "com/example/ariadne/ariadne/algo/SplitSearch" "sources" "[I" .null := F37.ext Ex55
  have F59 : Fld Z h55 b15 "com/example/ariadne/ariadne/algo/SplitSearch" "outStart" "[I" .null := F38.ext Ex55
  have F60 : Fld Z h55 b15 "com/example/ariadne/ariadne/algo/SplitSearch" "incoming" "[I" .null := F39.ext Ex55
  have F61 : Fld Z h55 b15 "com/example/ariadne/ariadne/algo/SplitSearch" "inStart" "[I" .null := F40.ext Ex55
  have F62 : Fld Z h55 b15 "com/example/ariadne/ariadne/algo/SplitSearch" "internalInEnd" "[I" .null := F41.ext Ex55
  have F63 : Fld Z h55 b15 "com/example/ariadne/ariadne/algo/SplitSearch" "blocks" "Lcom/example/ariadne/ariadne/algo/Blocks;" .null := F42.ext Ex55
  have F64 : Fld Z h55 b15 "com/example/ariadne/ariadne/algo/SplitSearch" "sets" "Lcom/example/ariadne/ariadne/algo/StepSets;" .null := F43.ext Ex55
  have F65 : Fld Z h55 b15 "com/example/ariadne/ariadne/algo/SplitSearch" "inertCount" "[I" .null := F44.ext Ex55
  have F66 : Fld Z h55 b15 "com/example/ariadne/ariadne/algo/SplitSearch" "reaching" "[I" .null := F45.ext Ex55
  have F67 : Fld Z h55 b15 "com/example/ariadne/ariadne/algo/SplitSearch" "rest" "[I" .null := F46.ext Ex55
  have F68 : Fld Z h55 b15 "com/example/ariadne/ariadne/algo/SplitSearch" "unknownInert" "[I" .null := F47.ext Ex55
  have F69 : Fld Z h55 b15 "com/example/ariadne/ariadne/algo/SplitSearch" "roundMark" "[I" .null := F48.ext Ex55
  have F70 : Fld Z h55 b15 "com/example/ariadne/ariadne/algo/SplitSearch" "round" "I" (.int (0 : Int32)) := F49.ext Ex55
  have F71 : Fld Z h55 b15 "com/example/ariadne/ariadne/algo/SplitSearch" "reachCount" "I" (.int (0 : Int32)) := F50.ext Ex55
  have F72 : Fld Z h55 b15 "com/example/ariadne/ariadne/algo/SplitSearch" "firstMarked" "I" (.int (0 : Int32)) := F51.ext Ex55
  have F73 : Fld Z h55 b15 "com/example/ariadne/ariadne/algo/SplitSearch" "restCount" "I" (.int (0 : Int32)) := F52.ext Ex55
  have V74 : Arv Z h55 b55 kc55 .int (1 : Int32) [] (defaultValue .int) := Arv.new A55 (by decide)
  have K75 : Keep h0 h55 [] := K54.ext Ex55
  obtain ⟨T76, h76, kc76, X76, e76, Ex76, A76, st76⟩ := newP X55 hx hZ (hw _ (List.mem_of_getElem? (i := 4) rfl)) e55 (g := (mkF m 107 #[.val (.int p1), .val (.int p2), .val (.int p3), .val (.int p4), .val (.int p5), .val (.int s0), .val (.int s1), .val (.int s2), .val (.int nn), .val (.int b0), .val (.int b1), .val (.int b2), .val (.int bp), .val (.int pr), .unset, .unset, .unset, .unset, .unset, .unset] [(.int (0 : Int32)), (.ref b55), (.ref b34), (.ref b15), (.ref b15)])) rfl (hb hby at_107) rfl (by decide) (cap := 0) (by decide) (by decide) (by decide) (by decide)
  obtain ⟨b76, g76⟩ : ∃ z, z = h55.size := ⟨_, rfl⟩
  rw [← g76] at A76 st76
  have sz_b76 : h0.size ≤ b76 := Nat.le_trans K75.1 (Nat.le_of_eq g76.symm)
  have g_b76 : n0 ≤ b76 := Nat.le_trans Z0 sz_b76
  have ne77 : b15 ≠ b76 := Nat.ne_of_lt (Nat.lt_of_lt_of_le E57.lt (Nat.le_of_eq g76.symm))
  have E78 : Exa Z h76 b15 "com/example/ariadne/ariadne/algo/SplitSearch" := E57.ext Ex76
  have F79 : Fld Z h76 b15 "com/example/ariadne/ariadne/algo/SplitSearch" "sources" "[I" .null := F58.ext Ex76
  have F80 : Fld Z h76 b15 "com/example/ariadne/ariadne/algo/SplitSearch" "outStart" "[I" .null := F59.ext Ex76
  have F81 : Fld Z h76 b15 "com/example/ariadne/ariadne/algo/SplitSearch" "incoming" "[I" .null := F60.ext Ex76
  have F82 : Fld Z h76 b15 "com/example/ariadne/ariadne/algo/SplitSearch" "inStart" "[I" .null := F61.ext Ex76
  have F83 : Fld Z h76 b15 "com/example/ariadne/ariadne/algo/SplitSearch" "internalInEnd" "[I" .null := F62.ext Ex76
  have F84 : Fld Z h76 b15 "com/example/ariadne/ariadne/algo/SplitSearch" "blocks" "Lcom/example/ariadne/ariadne/algo/Blocks;" .null := F63.ext Ex76
  have F85 : Fld Z h76 b15 "com/example/ariadne/ariadne/algo/SplitSearch" "sets" "Lcom/example/ariadne/ariadne/algo/StepSets;" .null := F64.ext Ex76
  have F86 : Fld Z h76 b15 "com/example/ariadne/ariadne/algo/SplitSearch" "inertCount" "[I" .null := F65.ext Ex76
  have F87 : Fld Z h76 b15 "com/example/ariadne/ariadne/algo/SplitSearch" "reaching" "[I" .null := F66.ext Ex76
  have F88 : Fld Z h76 b15 "com/example/ariadne/ariadne/algo/SplitSearch" "rest" "[I" .null := F67.ext Ex76
  have F89 : Fld Z h76 b15 "com/example/ariadne/ariadne/algo/SplitSearch" "unknownInert" "[I" .null := F68.ext Ex76
  have F90 : Fld Z h76 b15 "com/example/ariadne/ariadne/algo/SplitSearch" "roundMark" "[I" .null := F69.ext Ex76
  have F91 : Fld Z h76 b15 "com/example/ariadne/ariadne/algo/SplitSearch" "round" "I" (.int (0 : Int32)) := F70.ext Ex76
  have F92 : Fld Z h76 b15 "com/example/ariadne/ariadne/algo/SplitSearch" "reachCount" "I" (.int (0 : Int32)) := F71.ext Ex76
  have F93 : Fld Z h76 b15 "com/example/ariadne/ariadne/algo/SplitSearch" "firstMarked" "I" (.int (0 : Int32)) := F72.ext Ex76
  have F94 : Fld Z h76 b15 "com/example/ariadne/ariadne/algo/SplitSearch" "restCount" "I" (.int (0 : Int32)) := F73.ext Ex76
  have V95 : Arv Z h76 b76 kc76 .int (0 : Int32) [] (defaultValue .int) := Arv.new A76 (by decide)
  have K96 : Keep h0 h76 [] := K75.ext Ex76
  obtain ⟨T97, h97, kc97, X97, e97, Ex97, A97, st97⟩ := newP X76 hx hZ (hw _ (List.mem_of_getElem? (i := 4) rfl)) e76 (g := (mkF m 110 #[.val (.int p1), .val (.int p2), .val (.int p3), .val (.int p4), .val (.int p5), .val (.int s0), .val (.int s1), .val (.int s2), .val (.int nn), .val (.int b0), .val (.int b1), .val (.int b2), .val (.int bp), .val (.int pr), .unset, .unset, .unset, .unset, .unset, .unset] [(.int (3 : Int32)), (.ref b76), (.ref b55), (.ref b34), (.ref b15), (.ref b15)])) rfl (hb hby at_110) rfl (by decide) (cap := 3) (by decide) (by decide) (by decide) (by decide)
  obtain ⟨b97, g97⟩ : ∃ z, z = h76.size := ⟨_, rfl⟩
  rw [← g97] at A97 st97
  have sz_b97 : h0.size ≤ b97 := Nat.le_trans K96.1 (Nat.le_of_eq g97.symm)
  have g_b97 : n0 ≤ b97 := Nat.le_trans Z0 sz_b97
  have ne98 : b15 ≠ b97 := Nat.ne_of_lt (Nat.lt_of_lt_of_le E78.lt (Nat.le_of_eq g97.symm))
  have E99 : Exa Z h97 b15 "com/example/ariadne/ariadne/algo/SplitSearch" := E78.ext Ex97
  have F100 : Fld Z h97 b15 "com/example/ariadne/ariadne/algo/SplitSearch" "sources" "[I" .null := F79.ext Ex97
  have F101 : Fld Z h97 b15 "com/example/ariadne/ariadne/algo/SplitSearch" "outStart" "[I" .null := F80.ext Ex97
  have F102 : Fld Z h97 b15 "com/example/ariadne/ariadne/algo/SplitSearch" "incoming" "[I" .null := F81.ext Ex97
  have F103 : Fld Z h97 b15 "com/example/ariadne/ariadne/algo/SplitSearch" "inStart" "[I" .null := F82.ext Ex97
  have F104 : Fld Z h97 b15 "com/example/ariadne/ariadne/algo/SplitSearch" "internalInEnd" "[I" .null := F83.ext Ex97
  have F105 : Fld Z h97 b15 "com/example/ariadne/ariadne/algo/SplitSearch" "blocks" "Lcom/example/ariadne/ariadne/algo/Blocks;" .null := F84.ext Ex97
  have F106 : Fld Z h97 b15 "com/example/ariadne/ariadne/algo/SplitSearch" "sets" "Lcom/example/ariadne/ariadne/algo/StepSets;" .null := F85.ext Ex97
  have F107 : Fld Z h97 b15 "com/example/ariadne/ariadne/algo/SplitSearch" "inertCount" "[I" .null := F86.ext Ex97
  have F108 : Fld Z h97 b15 "com/example/ariadne/ariadne/algo/SplitSearch" "reaching" "[I" .null := F87.ext Ex97
  have F109 : Fld Z h97 b15 "com/example/ariadne/ariadne/algo/SplitSearch" "rest" "[I" .null := F88.ext Ex97
  have F110 : Fld Z h97 b15 "com/example/ariadne/ariadne/algo/SplitSearch" "unknownInert" "[I" .null := F89.ext Ex97
  have F111 : Fld Z h97 b15 "com/example/ariadne/ariadne/algo/SplitSearch" "roundMark" "[I" .null := F90.ext Ex97
  have F112 : Fld Z h97 b15 "com/example/ariadne/ariadne/algo/SplitSearch" "round" "I" (.int (0 : Int32)) := F91.ext Ex97
  have F113 : Fld Z h97 b15 "com/example/ariadne/ariadne/algo/SplitSearch" "reachCount" "I" (.int (0 : Int32)) := F92.ext Ex97
  have F114 : Fld Z h97 b15 "com/example/ariadne/ariadne/algo/SplitSearch" "firstMarked" "I" (.int (0 : Int32)) := F93.ext Ex97
  have F115 : Fld Z h97 b15 "com/example/ariadne/ariadne/algo/SplitSearch" "restCount" "I" (.int (0 : Int32)) := F94.ext Ex97
  have V116 : Arv Z h97 b97 kc97 .int (3 : Int32) [] (defaultValue .int) := Arv.new A97 (by decide)
  have K117 : Keep h0 h97 [] := K96.ext Ex97
  have V118 : Arv Z h97 b97 kc97 .int (3 : Int32) (([0, 0, 0] : List Int32).map Value.int) (.int 0) := V116.pad (pad_rep [] _ 3)
  obtain ⟨T119, h119, kc119, X119, e119, Ex119, A119, st119⟩ := newP X97 hx hZ (hw _ (List.mem_of_getElem? (i := 4) rfl)) e97 (g := (mkF m 113 #[.val (.int p1), .val (.int p2), .val (.int p3), .val (.int p4), .val (.int p5), .val (.int s0), .val (.int s1), .val (.int s2), .val (.int nn), .val (.int b0), .val (.int b1), .val (.int b2), .val (.int bp), .val (.int pr), .unset, .unset, .unset, .unset, .unset, .unset] [(.int (3 : Int32)), (.ref b97), (.ref b76), (.ref b55), (.ref b34), (.ref b15), (.ref b15)])) rfl (hb hby at_113) rfl (by decide) (cap := 3) (by decide) (by decide) (by decide) (by decide)
  obtain ⟨b119, g119⟩ : ∃ z, z = h97.size := ⟨_, rfl⟩
  rw [← g119] at A119 st119
  have sz_b119 : h0.size ≤ b119 := Nat.le_trans K117.1 (Nat.le_of_eq g119.symm)
  have g_b119 : n0 ≤ b119 := Nat.le_trans Z0 sz_b119
  have ne120 : b15 ≠ b119 := Nat.ne_of_lt (Nat.lt_of_lt_of_le E99.lt (Nat.le_of_eq g119.symm))
  have E121 : Exa Z h119 b15 "com/example/ariadne/ariadne/algo/SplitSearch" := E99.ext Ex119
  have F122 : Fld Z h119 b15 "com/example/ariadne/ariadne/algo/SplitSearch" "sources" "[I" .null := F100.ext Ex119
  have F123 : Fld Z h119 b15 "com/example/ariadne/ariadne/algo/SplitSearch" "outStart" "[I" .null := F101.ext Ex119
  have F124 : Fld Z h119 b15 "com/example/ariadne/ariadne/algo/SplitSearch" "incoming" "[I" .null := F102.ext Ex119
  have F125 : Fld Z h119 b15 "com/example/ariadne/ariadne/algo/SplitSearch" "inStart" "[I" .null := F103.ext Ex119
  have F126 : Fld Z h119 b15 "com/example/ariadne/ariadne/algo/SplitSearch" "internalInEnd" "[I" .null := F104.ext Ex119
  have F127 : Fld Z h119 b15 "com/example/ariadne/ariadne/algo/SplitSearch" "blocks" "Lcom/example/ariadne/ariadne/algo/Blocks;" .null := F105.ext Ex119
  have F128 : Fld Z h119 b15 "com/example/ariadne/ariadne/algo/SplitSearch" "sets" "Lcom/example/ariadne/ariadne/algo/StepSets;" .null := F106.ext Ex119
  have F129 : Fld Z h119 b15 "com/example/ariadne/ariadne/algo/SplitSearch" "inertCount" "[I" .null := F107.ext Ex119
  have F130 : Fld Z h119 b15 "com/example/ariadne/ariadne/algo/SplitSearch" "reaching" "[I" .null := F108.ext Ex119
  have F131 : Fld Z h119 b15 "com/example/ariadne/ariadne/algo/SplitSearch" "rest" "[I" .null := F109.ext Ex119
  have F132 : Fld Z h119 b15 "com/example/ariadne/ariadne/algo/SplitSearch" "unknownInert" "[I" .null := F110.ext Ex119
  have F133 : Fld Z h119 b15 "com/example/ariadne/ariadne/algo/SplitSearch" "roundMark" "[I" .null := F111.ext Ex119
  have F134 : Fld Z h119 b15 "com/example/ariadne/ariadne/algo/SplitSearch" "round" "I" (.int (0 : Int32)) := F112.ext Ex119
  have F135 : Fld Z h119 b15 "com/example/ariadne/ariadne/algo/SplitSearch" "reachCount" "I" (.int (0 : Int32)) := F113.ext Ex119
  have F136 : Fld Z h119 b15 "com/example/ariadne/ariadne/algo/SplitSearch" "firstMarked" "I" (.int (0 : Int32)) := F114.ext Ex119
  have F137 : Fld Z h119 b15 "com/example/ariadne/ariadne/algo/SplitSearch" "restCount" "I" (.int (0 : Int32)) := F115.ext Ex119
  have V138 : Arv Z h119 b119 kc119 .int (3 : Int32) [] (defaultValue .int) := Arv.new A119 (by decide)
  have K139 : Keep h0 h119 [] := K117.ext Ex119
  have V140 : Arv Z h119 b119 kc119 .int (3 : Int32) (([0, 0, 0] : List Int32).map Value.int) (.int 0) := V138.pad (pad_rep [] _ 3)
  obtain ⟨T141, h141, kc141, X141, e141, Ex141, A141, st141⟩ := newP X119 hx hZ (hw _ (List.mem_of_getElem? (i := 4) rfl)) e119 (g := (mkF m 118 #[.val (.int p1), .val (.int p2), .val (.int p3), .val (.int p4), .val (.int p5), .val (.int s0), .val (.int s1), .val (.int s2), .val (.int nn), .val (.int b0), .val (.int b1), .val (.int b2), .val (.int bp), .val (.int pr), .unset, .unset, .unset, .unset, .unset, .unset] [(.int (3 : Int32)), .null, .null, (.ref b119), (.ref b97), (.ref b76), (.ref b55), (.ref b34), (.ref b15), (.ref b15)])) rfl (hb hby at_118) rfl (by decide) (cap := 3) (by decide) (by decide) (by decide) (by decide)
  obtain ⟨b141, g141⟩ : ∃ z, z = h119.size := ⟨_, rfl⟩
  rw [← g141] at A141 st141
  have sz_b141 : h0.size ≤ b141 := Nat.le_trans K139.1 (Nat.le_of_eq g141.symm)
  have g_b141 : n0 ≤ b141 := Nat.le_trans Z0 sz_b141
  have ne142 : b15 ≠ b141 := Nat.ne_of_lt (Nat.lt_of_lt_of_le E121.lt (Nat.le_of_eq g141.symm))
  have E143 : Exa Z h141 b15 "com/example/ariadne/ariadne/algo/SplitSearch" := E121.ext Ex141
  have F144 : Fld Z h141 b15 "com/example/ariadne/ariadne/algo/SplitSearch" "sources" "[I" .null := F122.ext Ex141
  have F145 : Fld Z h141 b15 "com/example/ariadne/ariadne/algo/SplitSearch" "outStart" "[I" .null := F123.ext Ex141
  have F146 : Fld Z h141 b15 "com/example/ariadne/ariadne/algo/SplitSearch" "incoming" "[I" .null := F124.ext Ex141
  have F147 : Fld Z h141 b15 "com/example/ariadne/ariadne/algo/SplitSearch" "inStart" "[I" .null := F125.ext Ex141
  have F148 : Fld Z h141 b15 "com/example/ariadne/ariadne/algo/SplitSearch" "internalInEnd" "[I" .null := F126.ext Ex141
  have F149 : Fld Z h141 b15 "com/example/ariadne/ariadne/algo/SplitSearch" "blocks" "Lcom/example/ariadne/ariadne/algo/Blocks;" .null := F127.ext Ex141
  have F150 : Fld Z h141 b15 "com/example/ariadne/ariadne/algo/SplitSearch" "sets" "Lcom/example/ariadne/ariadne/algo/StepSets;" .null := F128.ext Ex141
  have F151 : Fld Z h141 b15 "com/example/ariadne/ariadne/algo/SplitSearch" "inertCount" "[I" .null := F129.ext Ex141
  have F152 : Fld Z h141 b15 "com/example/ariadne/ariadne/algo/SplitSearch" "reaching" "[I" .null := F130.ext Ex141
  have F153 : Fld Z h141 b15 "com/example/ariadne/ariadne/algo/SplitSearch" "rest" "[I" .null := F131.ext Ex141
  have F154 : Fld Z h141 b15 "com/example/ariadne/ariadne/algo/SplitSearch" "unknownInert" "[I" .null := F132.ext Ex141
  have F155 : Fld Z h141 b15 "com/example/ariadne/ariadne/algo/SplitSearch" "roundMark" "[I" .null := F133.ext Ex141
  have F156 : Fld Z h141 b15 "com/example/ariadne/ariadne/algo/SplitSearch" "round" "I" (.int (0 : Int32)) := F134.ext Ex141
  have F157 : Fld Z h141 b15 "com/example/ariadne/ariadne/algo/SplitSearch" "reachCount" "I" (.int (0 : Int32)) := F135.ext Ex141
  have F158 : Fld Z h141 b15 "com/example/ariadne/ariadne/algo/SplitSearch" "firstMarked" "I" (.int (0 : Int32)) := F136.ext Ex141
  have F159 : Fld Z h141 b15 "com/example/ariadne/ariadne/algo/SplitSearch" "restCount" "I" (.int (0 : Int32)) := F137.ext Ex141
  have V160 : Arv Z h141 b141 kc141 .int (3 : Int32) [] (defaultValue .int) := Arv.new A141 (by decide)
  have K161 : Keep h0 h141 [] := K139.ext Ex141
  have V162 : Arv Z h141 b141 kc141 .int (3 : Int32) (([0, 0, 0] : List Int32).map Value.int) (.int 0) := V160.pad (pad_rep [] _ 3)
  have H_b15 : h141.size = h141.size := rfl
  obtain ⟨_, _, ⟨T163, L163, kk163, n163⟩, -, X163, ⟨Lc163, hQ163, l163, y163, z163⟩, st163⟩ := X141.specialBack hx (y := (⟨"com/example/ariadne/ariadne/algo/SplitSearch", "<init>", "([I[I[I[I[ILcom/example/ariadne/ariadne/algo/Blocks;Lcom/example/ariadne/ariadne/algo/StepSets;[I)V"⟩ : MethodName)) rfl hown (mvT hZ (hw _ (List.mem_of_getElem? (i := 5) rfl))) (mvT hZ (hw _ (List.mem_of_getElem? (i := 6) rfl))) (mvT hZ (hw _ (List.mem_of_getElem? (i := 7) rfl))) (by decide) (backOf (W := 1) (rm_init l Z a0 hw [] b15 b34 b55 b76 b97 b119 b141 kc141 ([0, 0, 0] : List Int32) h141 n0 (Nat.le_trans Z0 K161.1) E143 F144 F145 F146 F147 F148 F149 F150 F151 F152 F153 F154 F155 F156 F157 F158 F159 V162 g_b15 ne142) hZ (hw _ (List.mem_of_getElem? (i := 7) rfl)) (hw _ (List.mem_of_getElem? (i := 3) rfl)) (by decide) (by decide)) (g := (mkF m 120 #[.val (.int p1), .val (.int p2), .val (.int p3), .val (.int p4), .val (.int p5), .val (.int s0), .val (.int s1), .val (.int s2), .val (.int nn), .val (.int b0), .val (.int b1), .val (.int b2), .val (.int bp), .val (.int pr), .unset, .unset, .unset, .unset, .unset, .unset] [(.ref b141), .null, .null, (.ref b119), (.ref b97), (.ref b76), (.ref b55), (.ref b34), (.ref b15), (.ref b15)])) rfl (by rw [hml]; rfl) (Steps.refl _) (a := b15) (argsL := [(.ref b34), (.ref b55), (.ref b76), (.ref b97), (.ref b119), .null, .null, (.ref b141)]) (rest := [(.ref b15)]) (lenOf pd___I_I_I_I_ILcom_example_ariadne_ariadne_algo_Blocks_Lcom_example_ariadne_ariadne_algo_StepSets__I_V rfl) rfl (by show 2 * 0 + _ ≤ _; exact Nat.le_of_eq rfl) (hb hby at_120) (fun _ _ => ⟨rfl, e141, (by decide : 7 + 4 ≤ _), (by decide : 36 + 12 ≤ _)⟩)
  dsimp only [Pt.U, Pt.locs, Pt.cells, Pt.slots] at X163 l163 y163 z163 st163 hQ163
  subst l163 y163 z163
  obtain ⟨rfl, N163q, Ki, ae, am, ke, km, ⟨za, zm, nem⟩, Si⟩ := hQ163
  have N163 := Fr.app N0 N163q
  have K164 : Keep h0 T163.heap [] := K161.trans Ki (allS (Or.inr sz_b15) all0)
  have E165 : Exa Z T163.heap b15 "com/example/ariadne/ariadne/algo/SplitSearch" := E143.keep Ki
  have V166 : Arv Z T163.heap b141 kc141 .int (3 : Int32) (([0, 0, 0] : List Int32).map Value.int) (.int 0) := V162.keep Ki (ninS (Ne.symm ne142) nin0)
  have sz_ae : h0.size ≤ ae := Nat.le_trans K161.1 za
  have sz_am : h0.size ≤ am := Nat.le_trans K161.1 zm
  have g_ae : n0 ≤ ae := Nat.le_trans Z0 sz_ae
  have g_am : n0 ≤ am := Nat.le_trans Z0 sz_am
  have nea : b15 ≠ ae := Nat.ne_of_lt (Nat.lt_of_lt_of_le E143.lt za)
  have neb : b15 ≠ am := Nat.ne_of_lt (Nat.lt_of_lt_of_le E143.lt zm)
  have E167 : Exa Z T163.heap b15 "com/example/ariadne/ariadne/algo/SplitSearch" := Si.1
  obtain ⟨cq168, kq168, q168a, q168b, q168c⟩ := isOf hZ rfl E167
  obtain ⟨_, _, ⟨T168, L168, kk168, n168⟩, -, X168, ⟨Lc168, hQ168, l168, y168, z168⟩, st168⟩ := X163.virtualBack hx (y := (⟨"com/example/ariadne/ariadne/algo/SplitSearch", "newRound", "()V"⟩ : MethodName)) (z := (⟨"com/example/ariadne/ariadne/algo/SplitSearch", "newRound", "()V"⟩ : MethodName)) hown (mvT hZ (hw _ (List.mem_of_getElem? (i := 35) rfl))) (mvT hZ (hw _ (List.mem_of_getElem? (i := 36) rfl))) (notFace_of_selects (args := #[]) (mvT hZ (hw _ (List.mem_of_getElem? (i := 38) rfl)))) (mvT hZ (hw _ (List.mem_of_getElem? (i := 38) rfl))) (mvT hZ (hw _ (List.mem_of_getElem? (i := 37) rfl))) (by decide) (backOf (W := 0) (rm_newRound l Z a0 hw [] b15 0 0 0 [0, 0, 0] [0, 0, 0] ae am ke km T163.heap n0 (Nat.le_trans Z0 K164.1) Si nea neb nem g_b15 g_ae g_am) hZ (hw _ (List.mem_of_getElem? (i := 39) rfl)) (hw _ (List.mem_of_getElem? (i := 3) rfl)) (by decide) (by decide)) q168a q168c (g := (mkF m 127 #[.val (.int p1), .val (.int p2), .val (.int p3), .val (.int p4), .val (.int p5), .val (.int s0), .val (.int s1), .val (.int s2), .val (.int nn), .val (.int b0), .val (.int b1), .val (.int b2), .val (.int bp), .val (.int pr), .val (.ref b15), .unset, .unset, .unset, .unset, .unset] [(.ref b15)])) rfl (by rw [hml]; rfl) (Steps.refl _) (argsL := []) (rest := []) (lenOf pd___V rfl) rfl (by show 2 * 0 + _ ≤ _; exact Nat.le_of_eq rfl) (hb hby at_127) (fun _ _ => ⟨rfl, rfl, (by decide : 11 + 0 ≤ _), (by decide : 48 + 0 ≤ _)⟩)
  dsimp only [Pt.U, Pt.locs, Pt.cells, Pt.slots] at X168 l168 y168 z168 st168 hQ168
  subst l168 y168 z168
  obtain ⟨rfl, N168q, Kn1, Sn1⟩ := hQ168
  have N168 := Fr.app N163 N168q
  have K169 : Keep h0 T168.heap [] := K164.trans Kn1 (allS (Or.inr sz_b15) all0)
  have E170 : Exa Z T168.heap b15 "com/example/ariadne/ariadne/algo/SplitSearch" := E167.keep Kn1
  have E171 : Exa Z T168.heap b15 "com/example/ariadne/ariadne/algo/SplitSearch" := Sn1.1
  obtain ⟨cq172, kq172, q172a, q172b, q172c⟩ := isOf hZ rfl E171
  obtain ⟨_, _, ⟨T172, L172, kk172, n172⟩, -, X172, ⟨Lc172, hQ172, l172, y172, z172⟩, st172⟩ := X168.virtualBack hx (y := (⟨"com/example/ariadne/ariadne/algo/SplitSearch", "mark", "(IZ)V"⟩ : MethodName)) (z := (⟨"com/example/ariadne/ariadne/algo/SplitSearch", "mark", "(IZ)V"⟩ : MethodName)) hown (mvT hZ (hw _ (List.mem_of_getElem? (i := 48) rfl))) (mvT hZ (hw _ (List.mem_of_getElem? (i := 49) rfl))) (notFace_of_selects (args := #[]) (mvT hZ (hw _ (List.mem_of_getElem? (i := 51) rfl)))) (mvT hZ (hw _ (List.mem_of_getElem? (i := 51) rfl))) (mvT hZ (hw _ (List.mem_of_getElem? (i := 50) rfl))) (by decide) (backOf (W := 0) (rm_mark l Z a0 hw [] b15 pr bp (0 + 1) 0 0 [0, 0, 0] [0, 0, 0] ae am ke km T168.heap n0 (Nat.le_trans Z0 K169.1) Sn1 nea neb nem g_b15 g_ae g_am (own_lt3 hpr) (by decide) (by decide) rfl rfl) hZ (hw _ (List.mem_of_getElem? (i := 52) rfl)) (hw _ (List.mem_of_getElem? (i := 3) rfl)) (by decide) (by decide)) q172a q172c (g := (mkF m 136 #[.val (.int p1), .val (.int p2), .val (.int p3), .val (.int p4), .val (.int p5), .val (.int s0), .val (.int s1), .val (.int s2), .val (.int nn), .val (.int b0), .val (.int b1), .val (.int b2), .val (.int bp), .val (.int pr), .val (.ref b15), .unset, .unset, .unset, .unset, .unset] [(.int bp), (.int pr), (.ref b15)])) rfl (by rw [hml]; rfl) (Steps.refl _) (argsL := [(.int pr), (.int bp)]) (rest := []) (lenOf pd__IZ_V rfl) rfl (by show 2 * 0 + _ ≤ _; exact Nat.le_of_eq rfl) (hb hby at_136) (fun _ _ => ⟨rfl, rfl, (by decide : 11 + 0 ≤ _), (by decide : 48 + 0 ≤ _)⟩)
  dsimp only [Pt.U, Pt.locs, Pt.cells, Pt.slots] at X172 l172 y172 z172 st172 hQ172
  subst l172 y172 z172
  obtain ⟨rfl, N172q, Kn2, Sn2⟩ := hQ172
  have N172 := Fr.app N168 N172q
  have K173 : Keep h0 T172.heap [] := K169.trans Kn2 (allS (Or.inr sz_b15) (allS (Or.inr sz_ae) (allS (Or.inr sz_am) all0)))
  have E174 : Exa Z T172.heap b15 "com/example/ariadne/ariadne/algo/SplitSearch" := E171.keep Kn2
  obtain ⟨re0, hre0⟩ : ∃ z : List Int32, z = own_re pr bp 0 0 [0, 0, 0] := ⟨_, rfl⟩
  rw [← hre0] at Sn2
  obtain ⟨rm0, hrm0⟩ : ∃ z : List Int32, z = ([0, 0, 0] : List Int32).set pr.toNatClampNeg (0 + 1) := ⟨_, rfl⟩
  rw [← hrm0] at Sn2
  have lre0 : re0.length = 3 := by rw [hre0, own_re_len]; exact rfl
  have lrm0 : rm0.length = 3 := by rw [hrm0, List.length_set]; exact rfl
  have E175 : Exa Z T172.heap b15 "com/example/ariadne/ariadne/algo/SplitSearch" := Sn2.1
  obtain ⟨cq176, kq176, q176a, q176b, q176c⟩ := isOf hZ rfl E175
  obtain ⟨_, _, ⟨T176, L176, kk176, n176⟩, -, X176, ⟨Lc176, hQ176, l176, y176, z176⟩, st176⟩ := X172.virtualBack hx (y := (⟨"com/example/ariadne/ariadne/algo/SplitSearch", "newRound", "()V"⟩ : MethodName)) (z := (⟨"com/example/ariadne/ariadne/algo/SplitSearch", "newRound", "()V"⟩ : MethodName)) hown (mvT hZ (hw _ (List.mem_of_getElem? (i := 35) rfl))) (mvT hZ (hw _ (List.mem_of_getElem? (i := 36) rfl))) (notFace_of_selects (args := #[]) (mvT hZ (hw _ (List.mem_of_getElem? (i := 38) rfl)))) (mvT hZ (hw _ (List.mem_of_getElem? (i := 38) rfl))) (mvT hZ (hw _ (List.mem_of_getElem? (i := 37) rfl))) (by decide) (backOf (W := 0) (rm_newRound l Z a0 hw [] b15 (0 + 1) (0 + 1) (own_fm bp 0) re0 rm0 ae am ke km T172.heap n0 (Nat.le_trans Z0 K173.1) Sn2 nea neb nem g_b15 g_ae g_am) hZ (hw _ (List.mem_of_getElem? (i := 39) rfl)) (hw _ (List.mem_of_getElem? (i := 3) rfl)) (by decide) (by decide)) q176a q176c (g := (mkF m 141 #[.val (.int p1), .val (.int p2), .val (.int p3), .val (.int p4), .val (.int p5), .val (.int s0), .val (.int s1), .val (.int s2), .val (.int nn), .val (.int b0), .val (.int b1), .val (.int b2), .val (.int bp), .val (.int pr), .val (.ref b15), .unset, .unset, .unset, .unset, .unset] [(.ref b15)])) rfl (by rw [hml]; rfl) (Steps.refl _) (argsL := []) (rest := []) (lenOf pd___V rfl) rfl (by show 2 * 0 + _ ≤ _; exact Nat.le_of_eq rfl) (hb hby at_141) (fun _ _ => ⟨rfl, rfl, (by decide : 11 + 0 ≤ _), (by decide : 48 + 0 ≤ _)⟩)
  dsimp only [Pt.U, Pt.locs, Pt.cells, Pt.slots] at X176 l176 y176 z176 st176 hQ176
  subst l176 y176 z176
  obtain ⟨rfl, N176q, Kn3, Sn3⟩ := hQ176
  have N176 := Fr.app N172 N176q
  have K177 : Keep h0 T176.heap [] := K173.trans Kn3 (allS (Or.inr sz_b15) all0)
  have E178 : Exa Z T176.heap b15 "com/example/ariadne/ariadne/algo/SplitSearch" := E175.keep Kn3
  have E179 : Exa Z T176.heap b15 "com/example/ariadne/ariadne/algo/SplitSearch" := Sn3.1
  have k180 : ∀ t, Steps p.tables e below (T176.setTop (mkF m 146 #[.val (.int p1), .val (.int p2), .val (.int p3), .val (.int p4), .val (.int p5), .val (.int s0), .val (.int s1), .val (.int s2), .val (.int nn), .val (.int b0), .val (.int b1), .val (.int b2), .val (.int bp), .val (.int pr), .val (.ref b15), .unset, .unset, .unset, .unset, .unset] [(.int nn)])) t → Steps p.tables e below (s₁.setTop (entryFrame m #[(.int p1), (.int p2), (.int p3), (.int p4), (.int p5)] maxLocals)) t := fun t k => k14 t (by
    show Steps p.tables e below (s₁.setTop (mkF m 96 #[.val (.int p1), .val (.int p2), .val (.int p3), .val (.int p4), .val (.int p5), .val (.int s0), .val (.int s1), .val (.int s2), .val (.int nn), .val (.int b0), .val (.int b1), .val (.int b2), .val (.int bp), .val (.int pr), .unset, .unset, .unset, .unset, .unset, .unset] [])) _
    refine st15 _ ?_
    show Steps p.tables e below (T15.setTop (mkF m 99 #[.val (.int p1), .val (.int p2), .val (.int p3), .val (.int p4), .val (.int p5), .val (.int s0), .val (.int s1), .val (.int s2), .val (.int nn), .val (.int b0), .val (.int b1), .val (.int b2), .val (.int bp), .val (.int pr), .unset, .unset, .unset, .unset, .unset, .unset] [(.ref b15)])) _
    refine XS.dup X15.here hx rfl (hb hby at_99) rfl rfl ?_
    show Steps p.tables e below (T15.setTop (mkF m 100 #[.val (.int p1), .val (.int p2), .val (.int p3), .val (.int p4), .val (.int p5), .val (.int s0), .val (.int s1), .val (.int s2), .val (.int nn), .val (.int b0), .val (.int b1), .val (.int b2), .val (.int bp), .val (.int pr), .unset, .unset, .unset, .unset, .unset, .unset] [(.ref b15), (.ref b15)])) _
    refine XS.iconst X15.here hx rfl (hb hby at_100) ?_
    show Steps p.tables e below (T15.setTop (mkF m 101 #[.val (.int p1), .val (.int p2), .val (.int p3), .val (.int p4), .val (.int p5), .val (.int s0), .val (.int s1), .val (.int s2), .val (.int nn), .val (.int b0), .val (.int b1), .val (.int b2), .val (.int bp), .val (.int pr), .unset, .unset, .unset, .unset, .unset, .unset] [(.int (0 : Int32)), (.ref b15), (.ref b15)])) _
    refine st34 _ ?_
    show Steps p.tables e below (T34.setTop (mkF m 103 #[.val (.int p1), .val (.int p2), .val (.int p3), .val (.int p4), .val (.int p5), .val (.int s0), .val (.int s1), .val (.int s2), .val (.int nn), .val (.int b0), .val (.int b1), .val (.int b2), .val (.int bp), .val (.int pr), .unset, .unset, .unset, .unset, .unset, .unset] [(.ref b34), (.ref b15), (.ref b15)])) _
    refine XS.iconst X34.here hx rfl (hb hby at_103) ?_
    show Steps p.tables e below (T34.setTop (mkF m 104 #[.val (.int p1), .val (.int p2), .val (.int p3), .val (.int p4), .val (.int p5), .val (.int s0), .val (.int s1), .val (.int s2), .val (.int nn), .val (.int b0), .val (.int b1), .val (.int b2), .val (.int bp), .val (.int pr), .unset, .unset, .unset, .unset, .unset, .unset] [(.int (1 : Int32)), (.ref b34), (.ref b15), (.ref b15)])) _
    refine st55 _ ?_
    show Steps p.tables e below (T55.setTop (mkF m 106 #[.val (.int p1), .val (.int p2), .val (.int p3), .val (.int p4), .val (.int p5), .val (.int s0), .val (.int s1), .val (.int s2), .val (.int nn), .val (.int b0), .val (.int b1), .val (.int b2), .val (.int bp), .val (.int pr), .unset, .unset, .unset, .unset, .unset, .unset] [(.ref b55), (.ref b34), (.ref b15), (.ref b15)])) _
    refine XS.iconst X55.here hx rfl (hb hby at_106) ?_
    show Steps p.tables e below (T55.setTop (mkF m 107 #[.val (.int p1), .val (.int p2), .val (.int p3), .val (.int p4), .val (.int p5), .val (.int s0), .val (.int s1), .val (.int s2), .val (.int nn), .val (.int b0), .val (.int b1), .val (.int b2), .val (.int bp), .val (.int pr), .unset, .unset, .unset, .unset, .unset, .unset] [(.int (0 : Int32)), (.ref b55), (.ref b34), (.ref b15), (.ref b15)])) _
    refine st76 _ ?_
    show Steps p.tables e below (T76.setTop (mkF m 109 #[.val (.int p1), .val (.int p2), .val (.int p3), .val (.int p4), .val (.int p5), .val (.int s0), .val (.int s1), .val (.int s2), .val (.int nn), .val (.int b0), .val (.int b1), .val (.int b2), .val (.int bp), .val (.int pr), .unset, .unset, .unset, .unset, .unset, .unset] [(.ref b76), (.ref b55), (.ref b34), (.ref b15), (.ref b15)])) _
    refine XS.iconst X76.here hx rfl (hb hby at_109) ?_
    show Steps p.tables e below (T76.setTop (mkF m 110 #[.val (.int p1), .val (.int p2), .val (.int p3), .val (.int p4), .val (.int p5), .val (.int s0), .val (.int s1), .val (.int s2), .val (.int nn), .val (.int b0), .val (.int b1), .val (.int b2), .val (.int bp), .val (.int pr), .unset, .unset, .unset, .unset, .unset, .unset] [(.int (3 : Int32)), (.ref b76), (.ref b55), (.ref b34), (.ref b15), (.ref b15)])) _
    refine st97 _ ?_
    show Steps p.tables e below (T97.setTop (mkF m 112 #[.val (.int p1), .val (.int p2), .val (.int p3), .val (.int p4), .val (.int p5), .val (.int s0), .val (.int s1), .val (.int s2), .val (.int nn), .val (.int b0), .val (.int b1), .val (.int b2), .val (.int bp), .val (.int pr), .unset, .unset, .unset, .unset, .unset, .unset] [(.ref b97), (.ref b76), (.ref b55), (.ref b34), (.ref b15), (.ref b15)])) _
    refine XS.iconst X97.here hx rfl (hb hby at_112) ?_
    show Steps p.tables e below (T97.setTop (mkF m 113 #[.val (.int p1), .val (.int p2), .val (.int p3), .val (.int p4), .val (.int p5), .val (.int s0), .val (.int s1), .val (.int s2), .val (.int nn), .val (.int b0), .val (.int b1), .val (.int b2), .val (.int bp), .val (.int pr), .unset, .unset, .unset, .unset, .unset, .unset] [(.int (3 : Int32)), (.ref b97), (.ref b76), (.ref b55), (.ref b34), (.ref b15), (.ref b15)])) _
    refine st119 _ ?_
    show Steps p.tables e below (T119.setTop (mkF m 115 #[.val (.int p1), .val (.int p2), .val (.int p3), .val (.int p4), .val (.int p5), .val (.int s0), .val (.int s1), .val (.int s2), .val (.int nn), .val (.int b0), .val (.int b1), .val (.int b2), .val (.int bp), .val (.int pr), .unset, .unset, .unset, .unset, .unset, .unset] [(.ref b119), (.ref b97), (.ref b76), (.ref b55), (.ref b34), (.ref b15), (.ref b15)])) _
    refine XS.aconstNull X119.here hx rfl (hb hby at_115) ?_
    show Steps p.tables e below (T119.setTop (mkF m 116 #[.val (.int p1), .val (.int p2), .val (.int p3), .val (.int p4), .val (.int p5), .val (.int s0), .val (.int s1), .val (.int s2), .val (.int nn), .val (.int b0), .val (.int b1), .val (.int b2), .val (.int bp), .val (.int pr), .unset, .unset, .unset, .unset, .unset, .unset] [.null, (.ref b119), (.ref b97), (.ref b76), (.ref b55), (.ref b34), (.ref b15), (.ref b15)])) _
    refine XS.aconstNull X119.here hx rfl (hb hby at_116) ?_
    show Steps p.tables e below (T119.setTop (mkF m 117 #[.val (.int p1), .val (.int p2), .val (.int p3), .val (.int p4), .val (.int p5), .val (.int s0), .val (.int s1), .val (.int s2), .val (.int nn), .val (.int b0), .val (.int b1), .val (.int b2), .val (.int bp), .val (.int pr), .unset, .unset, .unset, .unset, .unset, .unset] [.null, .null, (.ref b119), (.ref b97), (.ref b76), (.ref b55), (.ref b34), (.ref b15), (.ref b15)])) _
    refine XS.iconst X119.here hx rfl (hb hby at_117) ?_
    show Steps p.tables e below (T119.setTop (mkF m 118 #[.val (.int p1), .val (.int p2), .val (.int p3), .val (.int p4), .val (.int p5), .val (.int s0), .val (.int s1), .val (.int s2), .val (.int nn), .val (.int b0), .val (.int b1), .val (.int b2), .val (.int bp), .val (.int pr), .unset, .unset, .unset, .unset, .unset, .unset] [(.int (3 : Int32)), .null, .null, (.ref b119), (.ref b97), (.ref b76), (.ref b55), (.ref b34), (.ref b15), (.ref b15)])) _
    refine st141 _ ?_
    show Steps p.tables e below (T141.setTop (mkF m 120 #[.val (.int p1), .val (.int p2), .val (.int p3), .val (.int p4), .val (.int p5), .val (.int s0), .val (.int s1), .val (.int s2), .val (.int nn), .val (.int b0), .val (.int b1), .val (.int b2), .val (.int bp), .val (.int pr), .unset, .unset, .unset, .unset, .unset, .unset] [(.ref b141), .null, .null, (.ref b119), (.ref b97), (.ref b76), (.ref b55), (.ref b34), (.ref b15), (.ref b15)])) _
    refine st163.trans ?_
    show Steps p.tables e below (T163.setTop (mkF m 123 #[.val (.int p1), .val (.int p2), .val (.int p3), .val (.int p4), .val (.int p5), .val (.int s0), .val (.int s1), .val (.int s2), .val (.int nn), .val (.int b0), .val (.int b1), .val (.int b2), .val (.int bp), .val (.int pr), .unset, .unset, .unset, .unset, .unset, .unset] [(.ref b15)])) _
    refine XS.astore X163.here hx rfl (hb hby at_123) rfl rfl (l' := #[.val (.int p1), .val (.int p2), .val (.int p3), .val (.int p4), .val (.int p5), .val (.int s0), .val (.int s1), .val (.int s2), .val (.int nn), .val (.int b0), .val (.int b1), .val (.int b2), .val (.int bp), .val (.int pr), .val (.ref b15), .unset, .unset, .unset, .unset, .unset]) rfl ?_
    show Steps p.tables e below (T163.setTop (mkF m 125 #[.val (.int p1), .val (.int p2), .val (.int p3), .val (.int p4), .val (.int p5), .val (.int s0), .val (.int s1), .val (.int s2), .val (.int nn), .val (.int b0), .val (.int b1), .val (.int b2), .val (.int bp), .val (.int pr), .val (.ref b15), .unset, .unset, .unset, .unset, .unset] [])) _
    refine XS.aload X163.here hx rfl (hb hby at_125) rfl rfl ?_
    show Steps p.tables e below (T163.setTop (mkF m 127 #[.val (.int p1), .val (.int p2), .val (.int p3), .val (.int p4), .val (.int p5), .val (.int s0), .val (.int s1), .val (.int s2), .val (.int nn), .val (.int b0), .val (.int b1), .val (.int b2), .val (.int bp), .val (.int pr), .val (.ref b15), .unset, .unset, .unset, .unset, .unset] [(.ref b15)])) _
    refine st168.trans ?_
    show Steps p.tables e below (T168.setTop (mkF m 130 #[.val (.int p1), .val (.int p2), .val (.int p3), .val (.int p4), .val (.int p5), .val (.int s0), .val (.int s1), .val (.int s2), .val (.int nn), .val (.int b0), .val (.int b1), .val (.int b2), .val (.int bp), .val (.int pr), .val (.ref b15), .unset, .unset, .unset, .unset, .unset] [])) _
    refine XS.aload X168.here hx rfl (hb hby at_130) rfl rfl ?_
    show Steps p.tables e below (T168.setTop (mkF m 132 #[.val (.int p1), .val (.int p2), .val (.int p3), .val (.int p4), .val (.int p5), .val (.int s0), .val (.int s1), .val (.int s2), .val (.int nn), .val (.int b0), .val (.int b1), .val (.int b2), .val (.int bp), .val (.int pr), .val (.ref b15), .unset, .unset, .unset, .unset, .unset] [(.ref b15)])) _
    refine XS.iload X168.here hx rfl (hb hby at_132) rfl ?_
    show Steps p.tables e below (T168.setTop (mkF m 134 #[.val (.int p1), .val (.int p2), .val (.int p3), .val (.int p4), .val (.int p5), .val (.int s0), .val (.int s1), .val (.int s2), .val (.int nn), .val (.int b0), .val (.int b1), .val (.int b2), .val (.int bp), .val (.int pr), .val (.ref b15), .unset, .unset, .unset, .unset, .unset] [(.int pr), (.ref b15)])) _
    refine XS.iload X168.here hx rfl (hb hby at_134) rfl ?_
    show Steps p.tables e below (T168.setTop (mkF m 136 #[.val (.int p1), .val (.int p2), .val (.int p3), .val (.int p4), .val (.int p5), .val (.int s0), .val (.int s1), .val (.int s2), .val (.int nn), .val (.int b0), .val (.int b1), .val (.int b2), .val (.int bp), .val (.int pr), .val (.ref b15), .unset, .unset, .unset, .unset, .unset] [(.int bp), (.int pr), (.ref b15)])) _
    refine st172.trans ?_
    show Steps p.tables e below (T172.setTop (mkF m 139 #[.val (.int p1), .val (.int p2), .val (.int p3), .val (.int p4), .val (.int p5), .val (.int s0), .val (.int s1), .val (.int s2), .val (.int nn), .val (.int b0), .val (.int b1), .val (.int b2), .val (.int bp), .val (.int pr), .val (.ref b15), .unset, .unset, .unset, .unset, .unset] [])) _
    refine XS.aload X172.here hx rfl (hb hby at_139) rfl rfl ?_
    show Steps p.tables e below (T172.setTop (mkF m 141 #[.val (.int p1), .val (.int p2), .val (.int p3), .val (.int p4), .val (.int p5), .val (.int s0), .val (.int s1), .val (.int s2), .val (.int nn), .val (.int b0), .val (.int b1), .val (.int b2), .val (.int bp), .val (.int pr), .val (.ref b15), .unset, .unset, .unset, .unset, .unset] [(.ref b15)])) _
    refine st176.trans ?_
    show Steps p.tables e below (T176.setTop (mkF m 144 #[.val (.int p1), .val (.int p2), .val (.int p3), .val (.int p4), .val (.int p5), .val (.int s0), .val (.int s1), .val (.int s2), .val (.int nn), .val (.int b0), .val (.int b1), .val (.int b2), .val (.int bp), .val (.int pr), .val (.ref b15), .unset, .unset, .unset, .unset, .unset] [])) _
    refine XS.iload X176.here hx rfl (hb hby at_144) rfl ?_
    exact k)
  rcases hnn with rfl | rfl | rfl | rfl
  ·
    have k181 : ∀ t, Steps p.tables e below (T176.setTop (mkF m 190 #[.val (.int p1), .val (.int p2), .val (.int p3), .val (.int p4), .val (.int p5), .val (.int s0), .val (.int s1), .val (.int s2), .val (.int (0 : Int32)), .val (.int b0), .val (.int b1), .val (.int b2), .val (.int bp), .val (.int pr), .val (.ref b15), .unset, .unset, .unset, .unset, .unset] [(.int (0 : Int32))])) t → Steps p.tables e below (s₁.setTop (entryFrame m #[(.int p1), (.int p2), (.int p3), (.int p4), (.int p5)] maxLocals)) t := fun t k => k180 t (by
      show Steps p.tables e below (T176.setTop (mkF m 146 #[.val (.int p1), .val (.int p2), .val (.int p3), .val (.int p4), .val (.int p5), .val (.int s0), .val (.int s1), .val (.int s2), .val (.int (0 : Int32)), .val (.int b0), .val (.int b1), .val (.int b2), .val (.int bp), .val (.int pr), .val (.ref b15), .unset, .unset, .unset, .unset, .unset] [(.int (0 : Int32))])) _
      refine XS.ifYes X176.here hx rfl (pc0 := 146) (pc' := 158) rfl (hb hby at_146) rfl ((if0 _ _).trans (flt (by decide)).2.2.2) (by decide) (by decide) ?_
      show Steps p.tables e below (T176.setTop (mkF m 158 #[.val (.int p1), .val (.int p2), .val (.int p3), .val (.int p4), .val (.int p5), .val (.int s0), .val (.int s1), .val (.int s2), .val (.int (0 : Int32)), .val (.int b0), .val (.int b1), .val (.int b2), .val (.int bp), .val (.int pr), .val (.ref b15), .unset, .unset, .unset, .unset, .unset] [])) _
      refine XS.iload X176.here hx rfl (hb hby at_158) rfl ?_
      show Steps p.tables e below (T176.setTop (mkF m 160 #[.val (.int p1), .val (.int p2), .val (.int p3), .val (.int p4), .val (.int p5), .val (.int s0), .val (.int s1), .val (.int s2), .val (.int (0 : Int32)), .val (.int b0), .val (.int b1), .val (.int b2), .val (.int bp), .val (.int pr), .val (.ref b15), .unset, .unset, .unset, .unset, .unset] [(.int (0 : Int32))])) _
      refine XS.iconst X176.here hx rfl (hb hby at_160) ?_
      show Steps p.tables e below (T176.setTop (mkF m 161 #[.val (.int p1), .val (.int p2), .val (.int p3), .val (.int p4), .val (.int p5), .val (.int s0), .val (.int s1), .val (.int s2), .val (.int (0 : Int32)), .val (.int b0), .val (.int b1), .val (.int b2), .val (.int bp), .val (.int pr), .val (.ref b15), .unset, .unset, .unset, .unset, .unset] [(.int (1 : Int32)), (.int (0 : Int32))])) _
      refine XS.icmpYes X176.here hx rfl (pc0 := 161) (pc' := 173) rfl (hb hby at_161) rfl (flt (by decide)).2.2.2 (by decide) (by decide) ?_
      show Steps p.tables e below (T176.setTop (mkF m 173 #[.val (.int p1), .val (.int p2), .val (.int p3), .val (.int p4), .val (.int p5), .val (.int s0), .val (.int s1), .val (.int s2), .val (.int (0 : Int32)), .val (.int b0), .val (.int b1), .val (.int b2), .val (.int bp), .val (.int pr), .val (.ref b15), .unset, .unset, .unset, .unset, .unset] [])) _
      refine XS.iload X176.here hx rfl (hb hby at_173) rfl ?_
      show Steps p.tables e below (T176.setTop (mkF m 175 #[.val (.int p1), .val (.int p2), .val (.int p3), .val (.int p4), .val (.int p5), .val (.int s0), .val (.int s1), .val (.int s2), .val (.int (0 : Int32)), .val (.int b0), .val (.int b1), .val (.int b2), .val (.int bp), .val (.int pr), .val (.ref b15), .unset, .unset, .unset, .unset, .unset] [(.int (0 : Int32))])) _
      refine XS.iconst X176.here hx rfl (hb hby at_175) ?_
      show Steps p.tables e below (T176.setTop (mkF m 176 #[.val (.int p1), .val (.int p2), .val (.int p3), .val (.int p4), .val (.int p5), .val (.int s0), .val (.int s1), .val (.int s2), .val (.int (0 : Int32)), .val (.int b0), .val (.int b1), .val (.int b2), .val (.int bp), .val (.int pr), .val (.ref b15), .unset, .unset, .unset, .unset, .unset] [(.int (2 : Int32)), (.int (0 : Int32))])) _
      refine XS.icmpYes X176.here hx rfl (pc0 := 176) (pc' := 188) rfl (hb hby at_176) rfl (flt (by decide)).2.2.2 (by decide) (by decide) ?_
      show Steps p.tables e below (T176.setTop (mkF m 188 #[.val (.int p1), .val (.int p2), .val (.int p3), .val (.int p4), .val (.int p5), .val (.int s0), .val (.int s1), .val (.int s2), .val (.int (0 : Int32)), .val (.int b0), .val (.int b1), .val (.int b2), .val (.int bp), .val (.int pr), .val (.ref b15), .unset, .unset, .unset, .unset, .unset] [])) _
      refine XS.iload X176.here hx rfl (hb hby at_188) rfl ?_
      exact k)
    have k182 : ∀ t, Steps p.tables e below (T176.setTop (mkF m 203 #[.val (.int p1), .val (.int p2), .val (.int p3), .val (.int p4), .val (.int p5), .val (.int s0), .val (.int s1), .val (.int s2), .val (.int (0 : Int32)), .val (.int b0), .val (.int b1), .val (.int b2), .val (.int bp), .val (.int pr), .val (.ref b15), .unset, .unset, .unset, .unset, .unset] [(.int (0 : Int32))])) t → Steps p.tables e below (s₁.setTop (entryFrame m #[(.int p1), (.int p2), (.int p3), (.int p4), (.int p5)] maxLocals)) t := fun t k => k181 t (by
      show Steps p.tables e below (T176.setTop (mkF m 190 #[.val (.int p1), .val (.int p2), .val (.int p3), .val (.int p4), .val (.int p5), .val (.int s0), .val (.int s1), .val (.int s2), .val (.int (0 : Int32)), .val (.int b0), .val (.int b1), .val (.int b2), .val (.int bp), .val (.int pr), .val (.ref b15), .unset, .unset, .unset, .unset, .unset] [(.int (0 : Int32))])) _
      refine XS.ifYes X176.here hx rfl (pc0 := 190) (pc' := 202) rfl (hb hby at_190) rfl ((if0 _ _).trans (flt (by decide)).2.2.2) (by decide) (by decide) ?_
      show Steps p.tables e below (T176.setTop (mkF m 202 #[.val (.int p1), .val (.int p2), .val (.int p3), .val (.int p4), .val (.int p5), .val (.int s0), .val (.int s1), .val (.int s2), .val (.int (0 : Int32)), .val (.int b0), .val (.int b1), .val (.int b2), .val (.int bp), .val (.int pr), .val (.ref b15), .unset, .unset, .unset, .unset, .unset] [])) _
      refine XS.iconst X176.here hx rfl (hb hby at_202) ?_
      exact k)
    have k183 : ∀ t, Steps p.tables e below (T176.setTop (mkF m 206 #[.val (.int p1), .val (.int p2), .val (.int p3), .val (.int p4), .val (.int p5), .val (.int s0), .val (.int s1), .val (.int s2), .val (.int (0 : Int32)), .val (.int b0), .val (.int b1), .val (.int b2), .val (.int bp), .val (.int pr), .val (.ref b15), .unset, .unset, .unset, .unset, .unset] [(.int (1 : Int32)), (.int (0 : Int32)), (.int (0 : Int32))])) t → Steps p.tables e below (s₁.setTop (entryFrame m #[(.int p1), (.int p2), (.int p3), (.int p4), (.int p5)] maxLocals)) t := fun t k => k182 t (by
      show Steps p.tables e below (T176.setTop (mkF m 203 #[.val (.int p1), .val (.int p2), .val (.int p3), .val (.int p4), .val (.int p5), .val (.int s0), .val (.int s1), .val (.int s2), .val (.int (0 : Int32)), .val (.int b0), .val (.int b1), .val (.int b2), .val (.int bp), .val (.int pr), .val (.ref b15), .unset, .unset, .unset, .unset, .unset] [(.int (0 : Int32))])) _
      refine XS.iload X176.here hx rfl (hb hby at_203) rfl ?_
      show Steps p.tables e below (T176.setTop (mkF m 205 #[.val (.int p1), .val (.int p2), .val (.int p3), .val (.int p4), .val (.int p5), .val (.int s0), .val (.int s1), .val (.int s2), .val (.int (0 : Int32)), .val (.int b0), .val (.int b1), .val (.int b2), .val (.int bp), .val (.int pr), .val (.ref b15), .unset, .unset, .unset, .unset, .unset] [(.int (0 : Int32)), (.int (0 : Int32))])) _
      refine XS.iconst X176.here hx rfl (hb hby at_205) ?_
      exact k)
    have k184 : ∀ t, Steps p.tables e below (T176.setTop (mkF m 219 #[.val (.int p1), .val (.int p2), .val (.int p3), .val (.int p4), .val (.int p5), .val (.int s0), .val (.int s1), .val (.int s2), .val (.int (0 : Int32)), .val (.int b0), .val (.int b1), .val (.int b2), .val (.int bp), .val (.int pr), .val (.ref b15), .unset, .unset, .unset, .unset, .unset] [(.int (0 : Int32)), (.int (0 : Int32))])) t → Steps p.tables e below (s₁.setTop (entryFrame m #[(.int p1), (.int p2), (.int p3), (.int p4), (.int p5)] maxLocals)) t := fun t k => k183 t (by
      show Steps p.tables e below (T176.setTop (mkF m 206 #[.val (.int p1), .val (.int p2), .val (.int p3), .val (.int p4), .val (.int p5), .val (.int s0), .val (.int s1), .val (.int s2), .val (.int (0 : Int32)), .val (.int b0), .val (.int b1), .val (.int b2), .val (.int bp), .val (.int pr), .val (.ref b15), .unset, .unset, .unset, .unset, .unset] [(.int (1 : Int32)), (.int (0 : Int32)), (.int (0 : Int32))])) _
      refine XS.icmpYes X176.here hx rfl (pc0 := 206) (pc' := 218) rfl (hb hby at_206) rfl (flt (by decide)).2.2.2 (by decide) (by decide) ?_
      show Steps p.tables e below (T176.setTop (mkF m 218 #[.val (.int p1), .val (.int p2), .val (.int p3), .val (.int p4), .val (.int p5), .val (.int s0), .val (.int s1), .val (.int s2), .val (.int (0 : Int32)), .val (.int b0), .val (.int b1), .val (.int b2), .val (.int bp), .val (.int pr), .val (.ref b15), .unset, .unset, .unset, .unset, .unset] [(.int (0 : Int32))])) _
      refine XS.iconst X176.here hx rfl (hb hby at_218) ?_
      exact k)
    have k185 : ∀ t, Steps p.tables e below (T176.setTop (mkF m 223 #[.val (.int p1), .val (.int p2), .val (.int p3), .val (.int p4), .val (.int p5), .val (.int s0), .val (.int s1), .val (.int s2), .val (.int (0 : Int32)), .val (.int b0), .val (.int b1), .val (.int b2), .val (.int bp), .val (.int pr), .val (.ref b15), .unset, .unset, .unset, .unset, .unset] [(.int (2 : Int32)), (.int (0 : Int32)), (.int ((0 : Int32) + (0 : Int32)))])) t → Steps p.tables e below (s₁.setTop (entryFrame m #[(.int p1), (.int p2), (.int p3), (.int p4), (.int p5)] maxLocals)) t := fun t k => k184 t (by
      show Steps p.tables e below (T176.setTop (mkF m 219 #[.val (.int p1), .val (.int p2), .val (.int p3), .val (.int p4), .val (.int p5), .val (.int s0), .val (.int s1), .val (.int s2), .val (.int (0 : Int32)), .val (.int b0), .val (.int b1), .val (.int b2), .val (.int bp), .val (.int pr), .val (.ref b15), .unset, .unset, .unset, .unset, .unset] [(.int (0 : Int32)), (.int (0 : Int32))])) _
      refine XS.iadd X176.here hx rfl (hb hby at_219) rfl ?_
      show Steps p.tables e below (T176.setTop (mkF m 220 #[.val (.int p1), .val (.int p2), .val (.int p3), .val (.int p4), .val (.int p5), .val (.int s0), .val (.int s1), .val (.int s2), .val (.int (0 : Int32)), .val (.int b0), .val (.int b1), .val (.int b2), .val (.int bp), .val (.int pr), .val (.ref b15), .unset, .unset, .unset, .unset, .unset] [(.int ((0 : Int32) + (0 : Int32)))])) _
      refine XS.iload X176.here hx rfl (hb hby at_220) rfl ?_
      show Steps p.tables e below (T176.setTop (mkF m 222 #[.val (.int p1), .val (.int p2), .val (.int p3), .val (.int p4), .val (.int p5), .val (.int s0), .val (.int s1), .val (.int s2), .val (.int (0 : Int32)), .val (.int b0), .val (.int b1), .val (.int b2), .val (.int bp), .val (.int pr), .val (.ref b15), .unset, .unset, .unset, .unset, .unset] [(.int (0 : Int32)), (.int ((0 : Int32) + (0 : Int32)))])) _
      refine XS.iconst X176.here hx rfl (hb hby at_222) ?_
      exact k)
    have k186 : ∀ t, Steps p.tables e below (T176.setTop (mkF m 236 #[.val (.int p1), .val (.int p2), .val (.int p3), .val (.int p4), .val (.int p5), .val (.int s0), .val (.int s1), .val (.int s2), .val (.int (0 : Int32)), .val (.int b0), .val (.int b1), .val (.int b2), .val (.int bp), .val (.int pr), .val (.ref b15), .unset, .unset, .unset, .unset, .unset] [(.int (0 : Int32)), (.int ((0 : Int32) + (0 : Int32)))])) t → Steps p.tables e below (s₁.setTop (entryFrame m #[(.int p1), (.int p2), (.int p3), (.int p4), (.int p5)] maxLocals)) t := fun t k => k185 t (by
      show Steps p.tables e below (T176.setTop (mkF m 223 #[.val (.int p1), .val (.int p2), .val (.int p3), .val (.int p4), .val (.int p5), .val (.int s0), .val (.int s1), .val (.int s2), .val (.int (0 : Int32)), .val (.int b0), .val (.int b1), .val (.int b2), .val (.int bp), .val (.int pr), .val (.ref b15), .unset, .unset, .unset, .unset, .unset] [(.int (2 : Int32)), (.int (0 : Int32)), (.int ((0 : Int32) + (0 : Int32)))])) _
      refine XS.icmpYes X176.here hx rfl (pc0 := 223) (pc' := 235) rfl (hb hby at_223) rfl (flt (by decide)).2.2.2 (by decide) (by decide) ?_
      show Steps p.tables e below (T176.setTop (mkF m 235 #[.val (.int p1), .val (.int p2), .val (.int p3), .val (.int p4), .val (.int p5), .val (.int s0), .val (.int s1), .val (.int s2), .val (.int (0 : Int32)), .val (.int b0), .val (.int b1), .val (.int b2), .val (.int bp), .val (.int pr), .val (.ref b15), .unset, .unset, .unset, .unset, .unset] [(.int ((0 : Int32) + (0 : Int32)))])) _
      refine XS.iconst X176.here hx rfl (hb hby at_235) ?_
      exact k)
    have k187 : ∀ t, Steps p.tables e below (T176.setTop (mkF m 239 #[.val (.int p1), .val (.int p2), .val (.int p3), .val (.int p4), .val (.int p5), .val (.int s0), .val (.int s1), .val (.int s2), .val (.int (0 : Int32)), .val (.int b0), .val (.int b1), .val (.int b2), .val (.int bp), .val (.int pr), .val (.ref b15), .val (.int (((0 : Int32) + (0 : Int32)) + (0 : Int32))), .unset, .unset, .unset, .unset] [])) t → Steps p.tables e below (s₁.setTop (entryFrame m #[(.int p1), (.int p2), (.int p3), (.int p4), (.int p5)] maxLocals)) t := fun t k => k186 t (by
      show Steps p.tables e below (T176.setTop (mkF m 236 #[.val (.int p1), .val (.int p2), .val (.int p3), .val (.int p4), .val (.int p5), .val (.int s0), .val (.int s1), .val (.int s2), .val (.int (0 : Int32)), .val (.int b0), .val (.int b1), .val (.int b2), .val (.int bp), .val (.int pr), .val (.ref b15), .unset, .unset, .unset, .unset, .unset] [(.int (0 : Int32)), (.int ((0 : Int32) + (0 : Int32)))])) _
      refine XS.iadd X176.here hx rfl (hb hby at_236) rfl ?_
      show Steps p.tables e below (T176.setTop (mkF m 237 #[.val (.int p1), .val (.int p2), .val (.int p3), .val (.int p4), .val (.int p5), .val (.int s0), .val (.int s1), .val (.int s2), .val (.int (0 : Int32)), .val (.int b0), .val (.int b1), .val (.int b2), .val (.int bp), .val (.int pr), .val (.ref b15), .unset, .unset, .unset, .unset, .unset] [(.int (((0 : Int32) + (0 : Int32)) + (0 : Int32)))])) _
      refine XS.istore X176.here hx rfl (hb hby at_237) rfl (l' := #[.val (.int p1), .val (.int p2), .val (.int p3), .val (.int p4), .val (.int p5), .val (.int s0), .val (.int s1), .val (.int s2), .val (.int (0 : Int32)), .val (.int b0), .val (.int b1), .val (.int b2), .val (.int bp), .val (.int pr), .val (.ref b15), .val (.int (((0 : Int32) + (0 : Int32)) + (0 : Int32))), .unset, .unset, .unset, .unset]) rfl ?_
      exact k)
    obtain ⟨fc, hd_fc⟩ : ∃ z : Int32, z = (((0 : Int32) + (0 : Int32)) + (0 : Int32)) := ⟨_, rfl⟩
    have k188 : ∀ t, Steps p.tables e below (T176.setTop (mkF m 239 #[.val (.int p1), .val (.int p2), .val (.int p3), .val (.int p4), .val (.int p5), .val (.int s0), .val (.int s1), .val (.int s2), .val (.int (0 : Int32)), .val (.int b0), .val (.int b1), .val (.int b2), .val (.int bp), .val (.int pr), .val (.ref b15), .val (.int fc), .unset, .unset, .unset, .unset] [])) t → Steps p.tables e below (s₁.setTop (entryFrame m #[(.int p1), (.int p2), (.int p3), (.int p4), (.int p5)] maxLocals)) t := by rw [hd_fc]; exact k187
    have FF := own_fin0 (dd := p4) hs0 hy hpr hb0 hb1 hb2 hbp f0 f1 f2 hd_s1 hd_s2 hd_fc hre0 hrm0
    obtain ⟨pl0, pl1, pl2, im0, im1, im2⟩ := FF
    obtain ⟨E_o, F_e, F_m, F_r, F_c, F_f, F_t, V_e, V_m⟩ := Sn3
    obtain ⟨cq189, kq189, q189a, q189b, q189c⟩ := isOf hZ rfl E179
    obtain ⟨_, _, ⟨T189, L189, kk189, n189⟩, -, X189, ⟨Lc189, hQ189, l189, y189, z189⟩, st189⟩ := X176.virtualBack hx (y := (⟨"com/example/ariadne/ariadne/algo/SplitSearch", "markedCount", "()I"⟩ : MethodName)) (z := (⟨"com/example/ariadne/ariadne/algo/SplitSearch", "markedCount", "()I"⟩ : MethodName)) hown (mvT hZ (hw _ (List.mem_of_getElem? (i := 53) rfl))) (mvT hZ (hw _ (List.mem_of_getElem? (i := 54) rfl))) (notFace_of_selects (args := #[]) (mvT hZ (hw _ (List.mem_of_getElem? (i := 56) rfl)))) (mvT hZ (hw _ (List.mem_of_getElem? (i := 56) rfl))) (mvT hZ (hw _ (List.mem_of_getElem? (i := 55) rfl))) (by decide) (backOf (W := 0) (rm_count l Z a0 hw [] b15 0 T176.heap n0 (Nat.le_trans Z0 K177.1) F_c) hZ (hw _ (List.mem_of_getElem? (i := 57) rfl)) (hw _ (List.mem_of_getElem? (i := 3) rfl)) (by decide) (by decide)) q189a q189c (g := (mkF m 241 #[.val (.int p1), .val (.int p2), .val (.int p3), .val (.int p4), .val (.int p5), .val (.int s0), .val (.int s1), .val (.int s2), .val (.int (0 : Int32)), .val (.int b0), .val (.int b1), .val (.int b2), .val (.int bp), .val (.int pr), .val (.ref b15), .val (.int fc), .unset, .unset, .unset, .unset] [(.ref b15)])) rfl (by rw [hml]; rfl) (Steps.refl _) (argsL := []) (rest := []) (lenOf pd___I rfl) rfl (by show 2 * 0 + _ ≤ _; exact Nat.le_of_eq rfl) (hb hby at_241) (fun _ _ => ⟨rfl, rfl, (by decide : 11 + 0 ≤ _), (by decide : 48 + 0 ≤ _)⟩)
    dsimp only [Pt.U, Pt.locs, Pt.cells, Pt.slots] at X189 l189 y189 z189 st189 hQ189
    subst l189 y189 z189
    obtain ⟨rfl, N189q, hc_⟩ := hQ189
    have N189 := Fr.app N176 N189q
    obtain ⟨_, _, ⟨T190, L190, kk190, n190⟩, -, X190, ⟨Lc190, hQ190, l190, y190, z190⟩, st190⟩ := Jvm.LawKit.callS X189 hx (y := (⟨"com/example/ariadne/ariadne/algo/SplitSearchMarkPinLaw", "placeOk", "(IIIIIIII)Z"⟩ : MethodName)) hown (mvT hZ (hw _ (List.mem_of_getElem? (i := 63) rfl))) (mvT hZ (hw _ (List.mem_of_getElem? (i := 64) rfl))) (mvT hZ (hw _ (List.mem_of_getElem? (i := 65) rfl))) (mvT hZ (hw _ (List.mem_of_getElem? (i := 66) rfl))) (by decide) (backOf (W := 0) (rm_placeOk l Z a0 hw [] (0 : Int32) (-1 : Int32) (0 : Int32) fc s0 s1 s2 p4 T176.heap n0 (Nat.le_trans Z0 K177.1)) hZ (hw _ (List.mem_of_getElem? (i := 66) rfl)) (hw _ (List.mem_of_getElem? (i := 65) rfl)) (by decide) (by decide)) (g := (mkF m 328 #[.val (.int p1), .val (.int p2), .val (.int p3), .val (.int p4), .val (.int p5), .val (.int s0), .val (.int s1), .val (.int s2), .val (.int (0 : Int32)), .val (.int b0), .val (.int b1), .val (.int b2), .val (.int bp), .val (.int pr), .val (.ref b15), .val (.int fc), .val (.int (1 : Int32)), .val (.int (-1 : Int32)), .val (.int (-1 : Int32)), .val (.int (-1 : Int32))] [(.int p4), (.int s2), (.int s1), (.int s0), (.int fc), (.int (0 : Int32)), (.int (-1 : Int32)), (.int (0 : Int32))])) rfl (by rw [hml]; rfl) (argsL := [(.int (0 : Int32)), (.int (-1 : Int32)), (.int (0 : Int32)), (.int fc), (.int s0), (.int s1), (.int s2), (.int p4)]) (rest := []) (lenOf pd__IIIIIIII_Z rfl) rfl (by show 2 * 0 + _ ≤ _; exact Nat.le_of_eq rfl) (hb hby at_328) (fun _ _ => ⟨rfl, hc_, (by decide : 11 + 0 ≤ _), (by decide : 48 + 0 ≤ _)⟩)
    dsimp only [Pt.U, Pt.locs, Pt.cells, Pt.slots] at X190 l190 y190 z190 st190 hQ190
    subst l190 y190 z190
    obtain ⟨rfl, N190q, hp4⟩ := hQ190
    have N190 := Fr.app N189 N190q
    obtain ⟨_, _, ⟨T191, L191, kk191, n191⟩, -, X191, ⟨Lc191, hQ191, l191, y191, z191⟩, st191⟩ := Jvm.LawKit.callS X190 hx (y := (⟨"com/example/ariadne/ariadne/algo/SplitSearchMarkPinLaw", "placeOk", "(IIIIIIII)Z"⟩ : MethodName)) hown (mvT hZ (hw _ (List.mem_of_getElem? (i := 63) rfl))) (mvT hZ (hw _ (List.mem_of_getElem? (i := 64) rfl))) (mvT hZ (hw _ (List.mem_of_getElem? (i := 65) rfl))) (mvT hZ (hw _ (List.mem_of_getElem? (i := 66) rfl))) (by decide) (backOf (W := 0) (rm_placeOk l Z a0 hw [] (1 : Int32) (-1 : Int32) (0 : Int32) fc s0 s1 s2 p4 T176.heap n0 (Nat.le_trans Z0 K177.1)) hZ (hw _ (List.mem_of_getElem? (i := 66) rfl)) (hw _ (List.mem_of_getElem? (i := 65) rfl)) (by decide) (by decide)) (g := (mkF m 360 #[.val (.int p1), .val (.int p2), .val (.int p3), .val (.int p4), .val (.int p5), .val (.int s0), .val (.int s1), .val (.int s2), .val (.int (0 : Int32)), .val (.int b0), .val (.int b1), .val (.int b2), .val (.int bp), .val (.int pr), .val (.ref b15), .val (.int fc), .val (.int (1 : Int32)), .val (.int (-1 : Int32)), .val (.int (-1 : Int32)), .val (.int (-1 : Int32))] [(.int p4), (.int s2), (.int s1), (.int s0), (.int fc), (.int (0 : Int32)), (.int (-1 : Int32)), (.int (1 : Int32))])) rfl (by rw [hml]; rfl) (argsL := [(.int (1 : Int32)), (.int (-1 : Int32)), (.int (0 : Int32)), (.int fc), (.int s0), (.int s1), (.int s2), (.int p4)]) (rest := []) (lenOf pd__IIIIIIII_Z rfl) rfl (by show 2 * 0 + _ ≤ _; exact Nat.le_of_eq rfl) (hb hby at_360) (fun _ _ => ⟨rfl, hp4, (by decide : 11 + 0 ≤ _), (by decide : 48 + 0 ≤ _)⟩)
    dsimp only [Pt.U, Pt.locs, Pt.cells, Pt.slots] at X191 l191 y191 z191 st191 hQ191
    subst l191 y191 z191
    obtain ⟨rfl, N191q, hp5⟩ := hQ191
    have N191 := Fr.app N190 N191q
    obtain ⟨_, _, ⟨T192, L192, kk192, n192⟩, -, X192, ⟨Lc192, hQ192, l192, y192, z192⟩, st192⟩ := Jvm.LawKit.callS X191 hx (y := (⟨"com/example/ariadne/ariadne/algo/SplitSearchMarkPinLaw", "placeOk", "(IIIIIIII)Z"⟩ : MethodName)) hown (mvT hZ (hw _ (List.mem_of_getElem? (i := 63) rfl))) (mvT hZ (hw _ (List.mem_of_getElem? (i := 64) rfl))) (mvT hZ (hw _ (List.mem_of_getElem? (i := 65) rfl))) (mvT hZ (hw _ (List.mem_of_getElem? (i := 66) rfl))) (by decide) (backOf (W := 0) (rm_placeOk l Z a0 hw [] (2 : Int32) (-1 : Int32) (0 : Int32) fc s0 s1 s2 p4 T176.heap n0 (Nat.le_trans Z0 K177.1)) hZ (hw _ (List.mem_of_getElem? (i := 66) rfl)) (hw _ (List.mem_of_getElem? (i := 65) rfl)) (by decide) (by decide)) (g := (mkF m 392 #[.val (.int p1), .val (.int p2), .val (.int p3), .val (.int p4), .val (.int p5), .val (.int s0), .val (.int s1), .val (.int s2), .val (.int (0 : Int32)), .val (.int b0), .val (.int b1), .val (.int b2), .val (.int bp), .val (.int pr), .val (.ref b15), .val (.int fc), .val (.int (1 : Int32)), .val (.int (-1 : Int32)), .val (.int (-1 : Int32)), .val (.int (-1 : Int32))] [(.int p4), (.int s2), (.int s1), (.int s0), (.int fc), (.int (0 : Int32)), (.int (-1 : Int32)), (.int (2 : Int32))])) rfl (by rw [hml]; rfl) (argsL := [(.int (2 : Int32)), (.int (-1 : Int32)), (.int (0 : Int32)), (.int fc), (.int s0), (.int s1), (.int s2), (.int p4)]) (rest := []) (lenOf pd__IIIIIIII_Z rfl) rfl (by show 2 * 0 + _ ≤ _; exact Nat.le_of_eq rfl) (hb hby at_392) (fun _ _ => ⟨rfl, hp5, (by decide : 11 + 0 ≤ _), (by decide : 48 + 0 ≤ _)⟩)
    dsimp only [Pt.U, Pt.locs, Pt.cells, Pt.slots] at X192 l192 y192 z192 st192 hQ192
    subst l192 y192 z192
    obtain ⟨rfl, N192q, hp6⟩ := hQ192
    have N192 := Fr.app N191 N192q
    obtain ⟨cq193, kq193, q193a, q193b, q193c⟩ := isOf hZ hp6 E179
    obtain ⟨_, _, ⟨T193, L193, kk193, n193⟩, -, X193, ⟨Lc193, hQ193, l193, y193, z193⟩, st193⟩ := X192.virtualBack hx (y := (⟨"com/example/ariadne/ariadne/algo/SplitSearch", "isMarked", "(I)Z"⟩ : MethodName)) (z := (⟨"com/example/ariadne/ariadne/algo/SplitSearch", "isMarked", "(I)Z"⟩ : MethodName)) hown (mvT hZ (hw _ (List.mem_of_getElem? (i := 67) rfl))) (mvT hZ (hw _ (List.mem_of_getElem? (i := 68) rfl))) (notFace_of_selects (args := #[]) (mvT hZ (hw _ (List.mem_of_getElem? (i := 70) rfl)))) (mvT hZ (hw _ (List.mem_of_getElem? (i := 70) rfl))) (mvT hZ (hw _ (List.mem_of_getElem? (i := 69) rfl))) (by decide) (backOf (W := 0) (rm_isMarked l Z a0 hw [] b15 (0 : Int32) am km rm0 ((0 + 1) + 1) T176.heap n0 (Nat.le_trans Z0 K177.1) F_m F_r V_m (by decide)) hZ (hw _ (List.mem_of_getElem? (i := 71) rfl)) (hw _ (List.mem_of_getElem? (i := 3) rfl)) (by decide) (by decide)) q193a q193c (g := (mkF m 470 #[.val (.int p1), .val (.int p2), .val (.int p3), .val (.int p4), .val (.int p5), .val (.int s0), .val (.int s1), .val (.int s2), .val (.int (0 : Int32)), .val (.int b0), .val (.int b1), .val (.int b2), .val (.int bp), .val (.int pr), .val (.ref b15), .val (.int fc), .val (.int (1 : Int32)), .val (.int (-1 : Int32)), .val (.int (-1 : Int32)), .val (.int (-1 : Int32))] [(.int (0 : Int32)), (.ref b15)])) rfl (by rw [hml]; rfl) (Steps.refl _) (argsL := [(.int (0 : Int32))]) (rest := []) (lenOf pd__I_Z rfl) rfl (by show 2 * 0 + _ ≤ _; exact Nat.le_of_eq rfl) (hb hby at_470) (fun _ _ => ⟨rfl, hp6, (by decide : 11 + 0 ≤ _), (by decide : 48 + 0 ≤ _)⟩)
    dsimp only [Pt.U, Pt.locs, Pt.cells, Pt.slots] at X193 l193 y193 z193 st193 hQ193
    subst l193 y193 z193
    obtain ⟨rfl, N193q, hi7⟩ := hQ193
    have N193 := Fr.app N192 N193q
    obtain ⟨_, _, ⟨T194, L194, kk194, n194⟩, -, X194, ⟨Lc194, hQ194, l194, y194, z194⟩, st194⟩ := Jvm.LawKit.callS X193 hx (y := (⟨"com/example/ariadne/ariadne/algo/SplitSearchMarkPinLaw", "expectedMarked", "(IIIII)Z"⟩ : MethodName)) hown (mvT hZ (hw _ (List.mem_of_getElem? (i := 72) rfl))) (mvT hZ (hw _ (List.mem_of_getElem? (i := 73) rfl))) (mvT hZ (hw _ (List.mem_of_getElem? (i := 65) rfl))) (mvT hZ (hw _ (List.mem_of_getElem? (i := 74) rfl))) (by decide) (backOf (W := 1) (rm_expected l Z a0 hw [] (0 : Int32) (0 : Int32) s0 s1 s2 T176.heap n0 (Nat.le_trans Z0 K177.1)) hZ (hw _ (List.mem_of_getElem? (i := 74) rfl)) (hw _ (List.mem_of_getElem? (i := 65) rfl)) (by decide) (by decide)) (g := (mkF m 482 #[.val (.int p1), .val (.int p2), .val (.int p3), .val (.int p4), .val (.int p5), .val (.int s0), .val (.int s1), .val (.int s2), .val (.int (0 : Int32)), .val (.int b0), .val (.int b1), .val (.int b2), .val (.int bp), .val (.int pr), .val (.ref b15), .val (.int fc), .val (.int (1 : Int32)), .val (.int (-1 : Int32)), .val (.int (-1 : Int32)), .val (.int (-1 : Int32))] [(.int s2), (.int s1), (.int s0), (.int (0 : Int32)), (.int (0 : Int32)), (.int (own_ism (0 : Int32) rm0 ((0 + 1) + 1)))])) rfl (by rw [hml]; rfl) (argsL := [(.int (0 : Int32)), (.int (0 : Int32)), (.int s0), (.int s1), (.int s2)]) (rest := [(.int (own_ism (0 : Int32) rm0 ((0 + 1) + 1)))]) (lenOf pd__IIIII_Z rfl) rfl (by show 2 * 0 + _ ≤ _; exact Nat.le_of_eq rfl) (hb hby at_482) (fun _ _ => ⟨rfl, hi7, (by decide : 11 + 0 ≤ _), (by decide : 48 + 0 ≤ _)⟩)
    dsimp only [Pt.U, Pt.locs, Pt.cells, Pt.slots] at X194 l194 y194 z194 st194 hQ194
    subst l194 y194 z194
    obtain ⟨rfl, N194q, he8⟩ := hQ194
    have N194 := Fr.app N193 N194q
    obtain ⟨cq195, kq195, q195a, q195b, q195c⟩ := isOf hZ he8 E179
    obtain ⟨_, _, ⟨T195, L195, kk195, n195⟩, -, X195, ⟨Lc195, hQ195, l195, y195, z195⟩, st195⟩ := X194.virtualBack hx (y := (⟨"com/example/ariadne/ariadne/algo/SplitSearch", "isMarked", "(I)Z"⟩ : MethodName)) (z := (⟨"com/example/ariadne/ariadne/algo/SplitSearch", "isMarked", "(I)Z"⟩ : MethodName)) hown (mvT hZ (hw _ (List.mem_of_getElem? (i := 67) rfl))) (mvT hZ (hw _ (List.mem_of_getElem? (i := 68) rfl))) (notFace_of_selects (args := #[]) (mvT hZ (hw _ (List.mem_of_getElem? (i := 70) rfl)))) (mvT hZ (hw _ (List.mem_of_getElem? (i := 70) rfl))) (mvT hZ (hw _ (List.mem_of_getElem? (i := 69) rfl))) (by decide) (backOf (W := 0) (rm_isMarked l Z a0 hw [] b15 (1 : Int32) am km rm0 ((0 + 1) + 1) T176.heap n0 (Nat.le_trans Z0 K177.1) F_m F_r V_m (by decide)) hZ (hw _ (List.mem_of_getElem? (i := 71) rfl)) (hw _ (List.mem_of_getElem? (i := 3) rfl)) (by decide) (by decide)) q195a q195c (g := (mkF m 503 #[.val (.int p1), .val (.int p2), .val (.int p3), .val (.int p4), .val (.int p5), .val (.int s0), .val (.int s1), .val (.int s2), .val (.int (0 : Int32)), .val (.int b0), .val (.int b1), .val (.int b2), .val (.int bp), .val (.int pr), .val (.ref b15), .val (.int fc), .val (.int (1 : Int32)), .val (.int (-1 : Int32)), .val (.int (-1 : Int32)), .val (.int (-1 : Int32))] [(.int (1 : Int32)), (.ref b15)])) rfl (by rw [hml]; rfl) (Steps.refl _) (argsL := [(.int (1 : Int32))]) (rest := []) (lenOf pd__I_Z rfl) rfl (by show 2 * 0 + _ ≤ _; exact Nat.le_of_eq rfl) (hb hby at_503) (fun _ _ => ⟨rfl, he8, (by decide : 11 + 0 ≤ _), (by decide : 48 + 0 ≤ _)⟩)
    dsimp only [Pt.U, Pt.locs, Pt.cells, Pt.slots] at X195 l195 y195 z195 st195 hQ195
    subst l195 y195 z195
    obtain ⟨rfl, N195q, hi9⟩ := hQ195
    have N195 := Fr.app N194 N195q
    obtain ⟨_, _, ⟨T196, L196, kk196, n196⟩, -, X196, ⟨Lc196, hQ196, l196, y196, z196⟩, st196⟩ := Jvm.LawKit.callS X195 hx (y := (⟨"com/example/ariadne/ariadne/algo/SplitSearchMarkPinLaw", "expectedMarked", "(IIIII)Z"⟩ : MethodName)) hown (mvT hZ (hw _ (List.mem_of_getElem? (i := 72) rfl))) (mvT hZ (hw _ (List.mem_of_getElem? (i := 73) rfl))) (mvT hZ (hw _ (List.mem_of_getElem? (i := 65) rfl))) (mvT hZ (hw _ (List.mem_of_getElem? (i := 74) rfl))) (by decide) (backOf (W := 1) (rm_expected l Z a0 hw [] (1 : Int32) (0 : Int32) s0 s1 s2 T176.heap n0 (Nat.le_trans Z0 K177.1)) hZ (hw _ (List.mem_of_getElem? (i := 74) rfl)) (hw _ (List.mem_of_getElem? (i := 65) rfl)) (by decide) (by decide)) (g := (mkF m 515 #[.val (.int p1), .val (.int p2), .val (.int p3), .val (.int p4), .val (.int p5), .val (.int s0), .val (.int s1), .val (.int s2), .val (.int (0 : Int32)), .val (.int b0), .val (.int b1), .val (.int b2), .val (.int bp), .val (.int pr), .val (.ref b15), .val (.int fc), .val (.int (1 : Int32)), .val (.int (-1 : Int32)), .val (.int (-1 : Int32)), .val (.int (-1 : Int32))] [(.int s2), (.int s1), (.int s0), (.int (0 : Int32)), (.int (1 : Int32)), (.int (own_ism (1 : Int32) rm0 ((0 + 1) + 1)))])) rfl (by rw [hml]; rfl) (argsL := [(.int (1 : Int32)), (.int (0 : Int32)), (.int s0), (.int s1), (.int s2)]) (rest := [(.int (own_ism (1 : Int32) rm0 ((0 + 1) + 1)))]) (lenOf pd__IIIII_Z rfl) rfl (by show 2 * 0 + _ ≤ _; exact Nat.le_of_eq rfl) (hb hby at_515) (fun _ _ => ⟨rfl, hi9, (by decide : 11 + 0 ≤ _), (by decide : 48 + 0 ≤ _)⟩)
    dsimp only [Pt.U, Pt.locs, Pt.cells, Pt.slots] at X196 l196 y196 z196 st196 hQ196
    subst l196 y196 z196
    obtain ⟨rfl, N196q, he10⟩ := hQ196
    have N196 := Fr.app N195 N196q
    obtain ⟨cq197, kq197, q197a, q197b, q197c⟩ := isOf hZ he10 E179
    obtain ⟨_, _, ⟨T197, L197, kk197, n197⟩, -, X197, ⟨Lc197, hQ197, l197, y197, z197⟩, st197⟩ := X196.virtualBack hx (y := (⟨"com/example/ariadne/ariadne/algo/SplitSearch", "isMarked", "(I)Z"⟩ : MethodName)) (z := (⟨"com/example/ariadne/ariadne/algo/SplitSearch", "isMarked", "(I)Z"⟩ : MethodName)) hown (mvT hZ (hw _ (List.mem_of_getElem? (i := 67) rfl))) (mvT hZ (hw _ (List.mem_of_getElem? (i := 68) rfl))) (notFace_of_selects (args := #[]) (mvT hZ (hw _ (List.mem_of_getElem? (i := 70) rfl)))) (mvT hZ (hw _ (List.mem_of_getElem? (i := 70) rfl))) (mvT hZ (hw _ (List.mem_of_getElem? (i := 69) rfl))) (by decide) (backOf (W := 0) (rm_isMarked l Z a0 hw [] b15 (2 : Int32) am km rm0 ((0 + 1) + 1) T176.heap n0 (Nat.le_trans Z0 K177.1) F_m F_r V_m (by decide)) hZ (hw _ (List.mem_of_getElem? (i := 71) rfl)) (hw _ (List.mem_of_getElem? (i := 3) rfl)) (by decide) (by decide)) q197a q197c (g := (mkF m 536 #[.val (.int p1), .val (.int p2), .val (.int p3), .val (.int p4), .val (.int p5), .val (.int s0), .val (.int s1), .val (.int s2), .val (.int (0 : Int32)), .val (.int b0), .val (.int b1), .val (.int b2), .val (.int bp), .val (.int pr), .val (.ref b15), .val (.int fc), .val (.int (1 : Int32)), .val (.int (-1 : Int32)), .val (.int (-1 : Int32)), .val (.int (-1 : Int32))] [(.int (2 : Int32)), (.ref b15)])) rfl (by rw [hml]; rfl) (Steps.refl _) (argsL := [(.int (2 : Int32))]) (rest := []) (lenOf pd__I_Z rfl) rfl (by show 2 * 0 + _ ≤ _; exact Nat.le_of_eq rfl) (hb hby at_536) (fun _ _ => ⟨rfl, he10, (by decide : 11 + 0 ≤ _), (by decide : 48 + 0 ≤ _)⟩)
    dsimp only [Pt.U, Pt.locs, Pt.cells, Pt.slots] at X197 l197 y197 z197 st197 hQ197
    subst l197 y197 z197
    obtain ⟨rfl, N197q, hi11⟩ := hQ197
    have N197 := Fr.app N196 N197q
    obtain ⟨_, _, ⟨T198, L198, kk198, n198⟩, -, X198, ⟨Lc198, hQ198, l198, y198, z198⟩, st198⟩ := Jvm.LawKit.callS X197 hx (y := (⟨"com/example/ariadne/ariadne/algo/SplitSearchMarkPinLaw", "expectedMarked", "(IIIII)Z"⟩ : MethodName)) hown (mvT hZ (hw _ (List.mem_of_getElem? (i := 72) rfl))) (mvT hZ (hw _ (List.mem_of_getElem? (i := 73) rfl))) (mvT hZ (hw _ (List.mem_of_getElem? (i := 65) rfl))) (mvT hZ (hw _ (List.mem_of_getElem? (i := 74) rfl))) (by decide) (backOf (W := 1) (rm_expected l Z a0 hw [] (2 : Int32) (0 : Int32) s0 s1 s2 T176.heap n0 (Nat.le_trans Z0 K177.1)) hZ (hw _ (List.mem_of_getElem? (i := 74) rfl)) (hw _ (List.mem_of_getElem? (i := 65) rfl)) (by decide) (by decide)) (g := (mkF m 548 #[.val (.int p1), .val (.int p2), .val (.int p3), .val (.int p4), .val (.int p5), .val (.int s0), .val (.int s1), .val (.int s2), .val (.int (0 : Int32)), .val (.int b0), .val (.int b1), .val (.int b2), .val (.int bp), .val (.int pr), .val (.ref b15), .val (.int fc), .val (.int (1 : Int32)), .val (.int (-1 : Int32)), .val (.int (-1 : Int32)), .val (.int (-1 : Int32))] [(.int s2), (.int s1), (.int s0), (.int (0 : Int32)), (.int (2 : Int32)), (.int (own_ism (2 : Int32) rm0 ((0 + 1) + 1)))])) rfl (by rw [hml]; rfl) (argsL := [(.int (2 : Int32)), (.int (0 : Int32)), (.int s0), (.int s1), (.int s2)]) (rest := [(.int (own_ism (2 : Int32) rm0 ((0 + 1) + 1)))]) (lenOf pd__IIIII_Z rfl) rfl (by show 2 * 0 + _ ≤ _; exact Nat.le_of_eq rfl) (hb hby at_548) (fun _ _ => ⟨rfl, hi11, (by decide : 11 + 0 ≤ _), (by decide : 48 + 0 ≤ _)⟩)
    dsimp only [Pt.U, Pt.locs, Pt.cells, Pt.slots] at X198 l198 y198 z198 st198 hQ198
    subst l198 y198 z198
    obtain ⟨rfl, N198q, he12⟩ := hQ198
    have N198 := Fr.app N197 N198q
    have k200 : ∀ t, Steps p.tables e below (T198.setTop (mkF m 563 #[.val (.int p1), .val (.int p2), .val (.int p3), .val (.int p4), .val (.int p5), .val (.int s0), .val (.int s1), .val (.int s2), .val (.int (0 : Int32)), .val (.int b0), .val (.int b1), .val (.int b2), .val (.int bp), .val (.int pr), .val (.ref b15), .val (.int fc), .val (.int (1 : Int32)), .val (.int (-1 : Int32)), .val (.int (-1 : Int32)), .val (.int (-1 : Int32))] [(.int (1 : Int32))])) t → Steps p.tables e below (s₁.setTop (entryFrame m #[(.int p1), (.int p2), (.int p3), (.int p4), (.int p5)] maxLocals)) t := fun t k => k188 t (by
      show Steps p.tables e below (T176.setTop (mkF m 239 #[.val (.int p1), .val (.int p2), .val (.int p3), .val (.int p4), .val (.int p5), .val (.int s0), .val (.int s1), .val (.int s2), .val (.int (0 : Int32)), .val (.int b0), .val (.int b1), .val (.int b2), .val (.int bp), .val (.int pr), .val (.ref b15), .val (.int fc), .unset, .unset, .unset, .unset] [])) _
      refine XS.aload X176.here hx rfl (hb hby at_239) rfl rfl ?_
      show Steps p.tables e below (T176.setTop (mkF m 241 #[.val (.int p1), .val (.int p2), .val (.int p3), .val (.int p4), .val (.int p5), .val (.int s0), .val (.int s1), .val (.int s2), .val (.int (0 : Int32)), .val (.int b0), .val (.int b1), .val (.int b2), .val (.int bp), .val (.int pr), .val (.ref b15), .val (.int fc), .unset, .unset, .unset, .unset] [(.ref b15)])) _
      refine st189.trans ?_
      show Steps p.tables e below (T189.setTop (mkF m 244 #[.val (.int p1), .val (.int p2), .val (.int p3), .val (.int p4), .val (.int p5), .val (.int s0), .val (.int s1), .val (.int s2), .val (.int (0 : Int32)), .val (.int b0), .val (.int b1), .val (.int b2), .val (.int bp), .val (.int pr), .val (.ref b15), .val (.int fc), .unset, .unset, .unset, .unset] [(.int 0)])) _
      refine XS.iload X189.here hx rfl (hb hby at_244) rfl ?_
      show Steps p.tables e below (T189.setTop (mkF m 246 #[.val (.int p1), .val (.int p2), .val (.int p3), .val (.int p4), .val (.int p5), .val (.int s0), .val (.int s1), .val (.int s2), .val (.int (0 : Int32)), .val (.int b0), .val (.int b1), .val (.int b2), .val (.int bp), .val (.int pr), .val (.ref b15), .val (.int fc), .unset, .unset, .unset, .unset] [(.int (0 : Int32)), (.int 0)])) _
      refine XS.icmpNo X189.here hx rfl (hb hby at_246) rfl (teq (by decide)).2 ?_
      show Steps p.tables e below (T189.setTop (mkF m 249 #[.val (.int p1), .val (.int p2), .val (.int p3), .val (.int p4), .val (.int p5), .val (.int s0), .val (.int s1), .val (.int s2), .val (.int (0 : Int32)), .val (.int b0), .val (.int b1), .val (.int b2), .val (.int bp), .val (.int pr), .val (.ref b15), .val (.int fc), .unset, .unset, .unset, .unset] [])) _
      refine XS.iconst X189.here hx rfl (hb hby at_249) ?_
      show Steps p.tables e below (T189.setTop (mkF m 250 #[.val (.int p1), .val (.int p2), .val (.int p3), .val (.int p4), .val (.int p5), .val (.int s0), .val (.int s1), .val (.int s2), .val (.int (0 : Int32)), .val (.int b0), .val (.int b1), .val (.int b2), .val (.int bp), .val (.int pr), .val (.ref b15), .val (.int fc), .unset, .unset, .unset, .unset] [(.int (1 : Int32))])) _
      refine XS.goto X189.here hx rfl (pc0 := 250) (pc' := 254) rfl (hb hby at_250) (by decide) (by decide) ?_
      show Steps p.tables e below (T189.setTop (mkF m 254 #[.val (.int p1), .val (.int p2), .val (.int p3), .val (.int p4), .val (.int p5), .val (.int s0), .val (.int s1), .val (.int s2), .val (.int (0 : Int32)), .val (.int b0), .val (.int b1), .val (.int b2), .val (.int bp), .val (.int pr), .val (.ref b15), .val (.int fc), .unset, .unset, .unset, .unset] [(.int (1 : Int32))])) _
      refine XS.istore X189.here hx rfl (hb hby at_254) rfl (l' := #[.val (.int p1), .val (.int p2), .val (.int p3), .val (.int p4), .val (.int p5), .val (.int s0), .val (.int s1), .val (.int s2), .val (.int (0 : Int32)), .val (.int b0), .val (.int b1), .val (.int b2), .val (.int bp), .val (.int pr), .val (.ref b15), .val (.int fc), .val (.int (1 : Int32)), .unset, .unset, .unset]) rfl ?_
      show Steps p.tables e below (T189.setTop (mkF m 256 #[.val (.int p1), .val (.int p2), .val (.int p3), .val (.int p4), .val (.int p5), .val (.int s0), .val (.int s1), .val (.int s2), .val (.int (0 : Int32)), .val (.int b0), .val (.int b1), .val (.int b2), .val (.int bp), .val (.int pr), .val (.ref b15), .val (.int fc), .val (.int (1 : Int32)), .unset, .unset, .unset] [])) _
      refine XS.iload X189.here hx rfl (hb hby at_256) rfl ?_
      show Steps p.tables e below (T189.setTop (mkF m 258 #[.val (.int p1), .val (.int p2), .val (.int p3), .val (.int p4), .val (.int p5), .val (.int s0), .val (.int s1), .val (.int s2), .val (.int (0 : Int32)), .val (.int b0), .val (.int b1), .val (.int b2), .val (.int bp), .val (.int pr), .val (.ref b15), .val (.int fc), .val (.int (1 : Int32)), .unset, .unset, .unset] [(.int (0 : Int32))])) _
      refine XS.ifYes X189.here hx rfl (pc0 := 258) (pc' := 270) rfl (hb hby at_258) rfl ((if0 _ _).trans (flt (by decide)).2.2.2) (by decide) (by decide) ?_
      show Steps p.tables e below (T189.setTop (mkF m 270 #[.val (.int p1), .val (.int p2), .val (.int p3), .val (.int p4), .val (.int p5), .val (.int s0), .val (.int s1), .val (.int s2), .val (.int (0 : Int32)), .val (.int b0), .val (.int b1), .val (.int b2), .val (.int bp), .val (.int pr), .val (.ref b15), .val (.int fc), .val (.int (1 : Int32)), .unset, .unset, .unset] [])) _
      refine XS.iconst X189.here hx rfl (hb hby at_270) ?_
      show Steps p.tables e below (T189.setTop (mkF m 271 #[.val (.int p1), .val (.int p2), .val (.int p3), .val (.int p4), .val (.int p5), .val (.int s0), .val (.int s1), .val (.int s2), .val (.int (0 : Int32)), .val (.int b0), .val (.int b1), .val (.int b2), .val (.int bp), .val (.int pr), .val (.ref b15), .val (.int fc), .val (.int (1 : Int32)), .unset, .unset, .unset] [(.int (-1 : Int32))])) _
      refine XS.istore X189.here hx rfl (hb hby at_271) rfl (l' := #[.val (.int p1), .val (.int p2), .val (.int p3), .val (.int p4), .val (.int p5), .val (.int s0), .val (.int s1), .val (.int s2), .val (.int (0 : Int32)), .val (.int b0), .val (.int b1), .val (.int b2), .val (.int bp), .val (.int pr), .val (.ref b15), .val (.int fc), .val (.int (1 : Int32)), .val (.int (-1 : Int32)), .unset, .unset]) rfl ?_
      show Steps p.tables e below (T189.setTop (mkF m 273 #[.val (.int p1), .val (.int p2), .val (.int p3), .val (.int p4), .val (.int p5), .val (.int s0), .val (.int s1), .val (.int s2), .val (.int (0 : Int32)), .val (.int b0), .val (.int b1), .val (.int b2), .val (.int bp), .val (.int pr), .val (.ref b15), .val (.int fc), .val (.int (1 : Int32)), .val (.int (-1 : Int32)), .unset, .unset] [])) _
      refine XS.iload X189.here hx rfl (hb hby at_273) rfl ?_
      show Steps p.tables e below (T189.setTop (mkF m 275 #[.val (.int p1), .val (.int p2), .val (.int p3), .val (.int p4), .val (.int p5), .val (.int s0), .val (.int s1), .val (.int s2), .val (.int (0 : Int32)), .val (.int b0), .val (.int b1), .val (.int b2), .val (.int bp), .val (.int pr), .val (.ref b15), .val (.int fc), .val (.int (1 : Int32)), .val (.int (-1 : Int32)), .unset, .unset] [(.int (0 : Int32))])) _
      refine XS.iconst X189.here hx rfl (hb hby at_275) ?_
      show Steps p.tables e below (T189.setTop (mkF m 276 #[.val (.int p1), .val (.int p2), .val (.int p3), .val (.int p4), .val (.int p5), .val (.int s0), .val (.int s1), .val (.int s2), .val (.int (0 : Int32)), .val (.int b0), .val (.int b1), .val (.int b2), .val (.int bp), .val (.int pr), .val (.ref b15), .val (.int fc), .val (.int (1 : Int32)), .val (.int (-1 : Int32)), .unset, .unset] [(.int (1 : Int32)), (.int (0 : Int32))])) _
      refine XS.icmpYes X189.here hx rfl (pc0 := 276) (pc' := 288) rfl (hb hby at_276) rfl (flt (by decide)).2.2.2 (by decide) (by decide) ?_
      show Steps p.tables e below (T189.setTop (mkF m 288 #[.val (.int p1), .val (.int p2), .val (.int p3), .val (.int p4), .val (.int p5), .val (.int s0), .val (.int s1), .val (.int s2), .val (.int (0 : Int32)), .val (.int b0), .val (.int b1), .val (.int b2), .val (.int bp), .val (.int pr), .val (.ref b15), .val (.int fc), .val (.int (1 : Int32)), .val (.int (-1 : Int32)), .unset, .unset] [])) _
      refine XS.iconst X189.here hx rfl (hb hby at_288) ?_
      show Steps p.tables e below (T189.setTop (mkF m 289 #[.val (.int p1), .val (.int p2), .val (.int p3), .val (.int p4), .val (.int p5), .val (.int s0), .val (.int s1), .val (.int s2), .val (.int (0 : Int32)), .val (.int b0), .val (.int b1), .val (.int b2), .val (.int bp), .val (.int pr), .val (.ref b15), .val (.int fc), .val (.int (1 : Int32)), .val (.int (-1 : Int32)), .unset, .unset] [(.int (-1 : Int32))])) _
      refine XS.istore X189.here hx rfl (hb hby at_289) rfl (l' := #[.val (.int p1), .val (.int p2), .val (.int p3), .val (.int p4), .val (.int p5), .val (.int s0), .val (.int s1), .val (.int s2), .val (.int (0 : Int32)), .val (.int b0), .val (.int b1), .val (.int b2), .val (.int bp), .val (.int pr), .val (.ref b15), .val (.int fc), .val (.int (1 : Int32)), .val (.int (-1 : Int32)), .val (.int (-1 : Int32)), .unset]) rfl ?_
      show Steps p.tables e below (T189.setTop (mkF m 291 #[.val (.int p1), .val (.int p2), .val (.int p3), .val (.int p4), .val (.int p5), .val (.int s0), .val (.int s1), .val (.int s2), .val (.int (0 : Int32)), .val (.int b0), .val (.int b1), .val (.int b2), .val (.int bp), .val (.int pr), .val (.ref b15), .val (.int fc), .val (.int (1 : Int32)), .val (.int (-1 : Int32)), .val (.int (-1 : Int32)), .unset] [])) _
      refine XS.iload X189.here hx rfl (hb hby at_291) rfl ?_
      show Steps p.tables e below (T189.setTop (mkF m 293 #[.val (.int p1), .val (.int p2), .val (.int p3), .val (.int p4), .val (.int p5), .val (.int s0), .val (.int s1), .val (.int s2), .val (.int (0 : Int32)), .val (.int b0), .val (.int b1), .val (.int b2), .val (.int bp), .val (.int pr), .val (.ref b15), .val (.int fc), .val (.int (1 : Int32)), .val (.int (-1 : Int32)), .val (.int (-1 : Int32)), .unset] [(.int (0 : Int32))])) _
      refine XS.iconst X189.here hx rfl (hb hby at_293) ?_
      show Steps p.tables e below (T189.setTop (mkF m 294 #[.val (.int p1), .val (.int p2), .val (.int p3), .val (.int p4), .val (.int p5), .val (.int s0), .val (.int s1), .val (.int s2), .val (.int (0 : Int32)), .val (.int b0), .val (.int b1), .val (.int b2), .val (.int bp), .val (.int pr), .val (.ref b15), .val (.int fc), .val (.int (1 : Int32)), .val (.int (-1 : Int32)), .val (.int (-1 : Int32)), .unset] [(.int (2 : Int32)), (.int (0 : Int32))])) _
      refine XS.icmpYes X189.here hx rfl (pc0 := 294) (pc' := 306) rfl (hb hby at_294) rfl (flt (by decide)).2.2.2 (by decide) (by decide) ?_
      show Steps p.tables e below (T189.setTop (mkF m 306 #[.val (.int p1), .val (.int p2), .val (.int p3), .val (.int p4), .val (.int p5), .val (.int s0), .val (.int s1), .val (.int s2), .val (.int (0 : Int32)), .val (.int b0), .val (.int b1), .val (.int b2), .val (.int bp), .val (.int pr), .val (.ref b15), .val (.int fc), .val (.int (1 : Int32)), .val (.int (-1 : Int32)), .val (.int (-1 : Int32)), .unset] [])) _
      refine XS.iconst X189.here hx rfl (hb hby at_306) ?_
      show Steps p.tables e below (T189.setTop (mkF m 307 #[.val (.int p1), .val (.int p2), .val (.int p3), .val (.int p4), .val (.int p5), .val (.int s0), .val (.int s1), .val (.int s2), .val (.int (0 : Int32)), .val (.int b0), .val (.int b1), .val (.int b2), .val (.int bp), .val (.int pr), .val (.ref b15), .val (.int fc), .val (.int (1 : Int32)), .val (.int (-1 : Int32)), .val (.int (-1 : Int32)), .unset] [(.int (-1 : Int32))])) _
      refine XS.istore X189.here hx rfl (hb hby at_307) rfl (l' := #[.val (.int p1), .val (.int p2), .val (.int p3), .val (.int p4), .val (.int p5), .val (.int s0), .val (.int s1), .val (.int s2), .val (.int (0 : Int32)), .val (.int b0), .val (.int b1), .val (.int b2), .val (.int bp), .val (.int pr), .val (.ref b15), .val (.int fc), .val (.int (1 : Int32)), .val (.int (-1 : Int32)), .val (.int (-1 : Int32)), .val (.int (-1 : Int32))]) rfl ?_
      show Steps p.tables e below (T189.setTop (mkF m 309 #[.val (.int p1), .val (.int p2), .val (.int p3), .val (.int p4), .val (.int p5), .val (.int s0), .val (.int s1), .val (.int s2), .val (.int (0 : Int32)), .val (.int b0), .val (.int b1), .val (.int b2), .val (.int bp), .val (.int pr), .val (.ref b15), .val (.int fc), .val (.int (1 : Int32)), .val (.int (-1 : Int32)), .val (.int (-1 : Int32)), .val (.int (-1 : Int32))] [])) _
      refine XS.iload X189.here hx rfl (hb hby at_309) rfl ?_
      show Steps p.tables e below (T189.setTop (mkF m 311 #[.val (.int p1), .val (.int p2), .val (.int p3), .val (.int p4), .val (.int p5), .val (.int s0), .val (.int s1), .val (.int s2), .val (.int (0 : Int32)), .val (.int b0), .val (.int b1), .val (.int b2), .val (.int bp), .val (.int pr), .val (.ref b15), .val (.int fc), .val (.int (1 : Int32)), .val (.int (-1 : Int32)), .val (.int (-1 : Int32)), .val (.int (-1 : Int32))] [(.int (1 : Int32))])) _
      refine XS.ifNo X189.here hx rfl (hb hby at_311) rfl ((if0 _ _).trans (feq (by decide)).1) ?_
      show Steps p.tables e below (T189.setTop (mkF m 314 #[.val (.int p1), .val (.int p2), .val (.int p3), .val (.int p4), .val (.int p5), .val (.int s0), .val (.int s1), .val (.int s2), .val (.int (0 : Int32)), .val (.int b0), .val (.int b1), .val (.int b2), .val (.int bp), .val (.int pr), .val (.ref b15), .val (.int fc), .val (.int (1 : Int32)), .val (.int (-1 : Int32)), .val (.int (-1 : Int32)), .val (.int (-1 : Int32))] [])) _
      refine XS.iconst X189.here hx rfl (hb hby at_314) ?_
      show Steps p.tables e below (T189.setTop (mkF m 315 #[.val (.int p1), .val (.int p2), .val (.int p3), .val (.int p4), .val (.int p5), .val (.int s0), .val (.int s1), .val (.int s2), .val (.int (0 : Int32)), .val (.int b0), .val (.int b1), .val (.int b2), .val (.int bp), .val (.int pr), .val (.ref b15), .val (.int fc), .val (.int (1 : Int32)), .val (.int (-1 : Int32)), .val (.int (-1 : Int32)), .val (.int (-1 : Int32))] [(.int (0 : Int32))])) _
      refine XS.iload X189.here hx rfl (hb hby at_315) rfl ?_
      show Steps p.tables e below (T189.setTop (mkF m 317 #[.val (.int p1), .val (.int p2), .val (.int p3), .val (.int p4), .val (.int p5), .val (.int s0), .val (.int s1), .val (.int s2), .val (.int (0 : Int32)), .val (.int b0), .val (.int b1), .val (.int b2), .val (.int bp), .val (.int pr), .val (.ref b15), .val (.int fc), .val (.int (1 : Int32)), .val (.int (-1 : Int32)), .val (.int (-1 : Int32)), .val (.int (-1 : Int32))] [(.int (-1 : Int32)), (.int (0 : Int32))])) _
      refine XS.iload X189.here hx rfl (hb hby at_317) rfl ?_
      show Steps p.tables e below (T189.setTop (mkF m 319 #[.val (.int p1), .val (.int p2), .val (.int p3), .val (.int p4), .val (.int p5), .val (.int s0), .val (.int s1), .val (.int s2), .val (.int (0 : Int32)), .val (.int b0), .val (.int b1), .val (.int b2), .val (.int bp), .val (.int pr), .val (.ref b15), .val (.int fc), .val (.int (1 : Int32)), .val (.int (-1 : Int32)), .val (.int (-1 : Int32)), .val (.int (-1 : Int32))] [(.int (0 : Int32)), (.int (-1 : Int32)), (.int (0 : Int32))])) _
      refine XS.iload X189.here hx rfl (hb hby at_319) rfl ?_
      show Steps p.tables e below (T189.setTop (mkF m 321 #[.val (.int p1), .val (.int p2), .val (.int p3), .val (.int p4), .val (.int p5), .val (.int s0), .val (.int s1), .val (.int s2), .val (.int (0 : Int32)), .val (.int b0), .val (.int b1), .val (.int b2), .val (.int bp), .val (.int pr), .val (.ref b15), .val (.int fc), .val (.int (1 : Int32)), .val (.int (-1 : Int32)), .val (.int (-1 : Int32)), .val (.int (-1 : Int32))] [(.int fc), (.int (0 : Int32)), (.int (-1 : Int32)), (.int (0 : Int32))])) _
      refine XS.iload X189.here hx rfl (hb hby at_321) rfl ?_
      show Steps p.tables e below (T189.setTop (mkF m 323 #[.val (.int p1), .val (.int p2), .val (.int p3), .val (.int p4), .val (.int p5), .val (.int s0), .val (.int s1), .val (.int s2), .val (.int (0 : Int32)), .val (.int b0), .val (.int b1), .val (.int b2), .val (.int bp), .val (.int pr), .val (.ref b15), .val (.int fc), .val (.int (1 : Int32)), .val (.int (-1 : Int32)), .val (.int (-1 : Int32)), .val (.int (-1 : Int32))] [(.int s0), (.int fc), (.int (0 : Int32)), (.int (-1 : Int32)), (.int (0 : Int32))])) _
      refine XS.iload X189.here hx rfl (hb hby at_323) rfl ?_
      show Steps p.tables e below (T189.setTop (mkF m 325 #[.val (.int p1), .val (.int p2), .val (.int p3), .val (.int p4), .val (.int p5), .val (.int s0), .val (.int s1), .val (.int s2), .val (.int (0 : Int32)), .val (.int b0), .val (.int b1), .val (.int b2), .val (.int bp), .val (.int pr), .val (.ref b15), .val (.int fc), .val (.int (1 : Int32)), .val (.int (-1 : Int32)), .val (.int (-1 : Int32)), .val (.int (-1 : Int32))] [(.int s1), (.int s0), (.int fc), (.int (0 : Int32)), (.int (-1 : Int32)), (.int (0 : Int32))])) _
      refine XS.iload X189.here hx rfl (hb hby at_325) rfl ?_
      show Steps p.tables e below (T189.setTop (mkF m 327 #[.val (.int p1), .val (.int p2), .val (.int p3), .val (.int p4), .val (.int p5), .val (.int s0), .val (.int s1), .val (.int s2), .val (.int (0 : Int32)), .val (.int b0), .val (.int b1), .val (.int b2), .val (.int bp), .val (.int pr), .val (.ref b15), .val (.int fc), .val (.int (1 : Int32)), .val (.int (-1 : Int32)), .val (.int (-1 : Int32)), .val (.int (-1 : Int32))] [(.int s2), (.int s1), (.int s0), (.int fc), (.int (0 : Int32)), (.int (-1 : Int32)), (.int (0 : Int32))])) _
      refine XS.iloadN X189.here hx rfl (hb hby at_327) rfl ?_
      show Steps p.tables e below (T189.setTop (mkF m 328 #[.val (.int p1), .val (.int p2), .val (.int p3), .val (.int p4), .val (.int p5), .val (.int s0), .val (.int s1), .val (.int s2), .val (.int (0 : Int32)), .val (.int b0), .val (.int b1), .val (.int b2), .val (.int bp), .val (.int pr), .val (.ref b15), .val (.int fc), .val (.int (1 : Int32)), .val (.int (-1 : Int32)), .val (.int (-1 : Int32)), .val (.int (-1 : Int32))] [(.int p4), (.int s2), (.int s1), (.int s0), (.int fc), (.int (0 : Int32)), (.int (-1 : Int32)), (.int (0 : Int32))])) _
      refine st190 _ ?_
      show Steps p.tables e below (T190.setTop (mkF m 331 #[.val (.int p1), .val (.int p2), .val (.int p3), .val (.int p4), .val (.int p5), .val (.int s0), .val (.int s1), .val (.int s2), .val (.int (0 : Int32)), .val (.int b0), .val (.int b1), .val (.int b2), .val (.int bp), .val (.int pr), .val (.ref b15), .val (.int fc), .val (.int (1 : Int32)), .val (.int (-1 : Int32)), .val (.int (-1 : Int32)), .val (.int (-1 : Int32))] [(.int (own_place (0 : Int32) (-1 : Int32) (0 : Int32) fc s0 s1 s2 p4))])) _
      refine XS.ifNo X190.here hx rfl (hb hby at_331) rfl ((if0 _ _).trans (feq (by rw [pl0]; decide)).1) ?_
      show Steps p.tables e below (T190.setTop (mkF m 334 #[.val (.int p1), .val (.int p2), .val (.int p3), .val (.int p4), .val (.int p5), .val (.int s0), .val (.int s1), .val (.int s2), .val (.int (0 : Int32)), .val (.int b0), .val (.int b1), .val (.int b2), .val (.int bp), .val (.int pr), .val (.ref b15), .val (.int fc), .val (.int (1 : Int32)), .val (.int (-1 : Int32)), .val (.int (-1 : Int32)), .val (.int (-1 : Int32))] [])) _
      refine XS.iconst X190.here hx rfl (hb hby at_334) ?_
      show Steps p.tables e below (T190.setTop (mkF m 335 #[.val (.int p1), .val (.int p2), .val (.int p3), .val (.int p4), .val (.int p5), .val (.int s0), .val (.int s1), .val (.int s2), .val (.int (0 : Int32)), .val (.int b0), .val (.int b1), .val (.int b2), .val (.int bp), .val (.int pr), .val (.ref b15), .val (.int fc), .val (.int (1 : Int32)), .val (.int (-1 : Int32)), .val (.int (-1 : Int32)), .val (.int (-1 : Int32))] [(.int (1 : Int32))])) _
      refine XS.goto X190.here hx rfl (pc0 := 335) (pc' := 339) rfl (hb hby at_335) (by decide) (by decide) ?_
      show Steps p.tables e below (T190.setTop (mkF m 339 #[.val (.int p1), .val (.int p2), .val (.int p3), .val (.int p4), .val (.int p5), .val (.int s0), .val (.int s1), .val (.int s2), .val (.int (0 : Int32)), .val (.int b0), .val (.int b1), .val (.int b2), .val (.int bp), .val (.int pr), .val (.ref b15), .val (.int fc), .val (.int (1 : Int32)), .val (.int (-1 : Int32)), .val (.int (-1 : Int32)), .val (.int (-1 : Int32))] [(.int (1 : Int32))])) _
      refine XS.istore X190.here hx rfl (hb hby at_339) rfl (l' := #[.val (.int p1), .val (.int p2), .val (.int p3), .val (.int p4), .val (.int p5), .val (.int s0), .val (.int s1), .val (.int s2), .val (.int (0 : Int32)), .val (.int b0), .val (.int b1), .val (.int b2), .val (.int bp), .val (.int pr), .val (.ref b15), .val (.int fc), .val (.int (1 : Int32)), .val (.int (-1 : Int32)), .val (.int (-1 : Int32)), .val (.int (-1 : Int32))]) rfl ?_
      show Steps p.tables e below (T190.setTop (mkF m 341 #[.val (.int p1), .val (.int p2), .val (.int p3), .val (.int p4), .val (.int p5), .val (.int s0), .val (.int s1), .val (.int s2), .val (.int (0 : Int32)), .val (.int b0), .val (.int b1), .val (.int b2), .val (.int bp), .val (.int pr), .val (.ref b15), .val (.int fc), .val (.int (1 : Int32)), .val (.int (-1 : Int32)), .val (.int (-1 : Int32)), .val (.int (-1 : Int32))] [])) _
      refine XS.iload X190.here hx rfl (hb hby at_341) rfl ?_
      show Steps p.tables e below (T190.setTop (mkF m 343 #[.val (.int p1), .val (.int p2), .val (.int p3), .val (.int p4), .val (.int p5), .val (.int s0), .val (.int s1), .val (.int s2), .val (.int (0 : Int32)), .val (.int b0), .val (.int b1), .val (.int b2), .val (.int bp), .val (.int pr), .val (.ref b15), .val (.int fc), .val (.int (1 : Int32)), .val (.int (-1 : Int32)), .val (.int (-1 : Int32)), .val (.int (-1 : Int32))] [(.int (1 : Int32))])) _
      refine XS.ifNo X190.here hx rfl (hb hby at_343) rfl ((if0 _ _).trans (feq (by decide)).1) ?_
      show Steps p.tables e below (T190.setTop (mkF m 346 #[.val (.int p1), .val (.int p2), .val (.int p3), .val (.int p4), .val (.int p5), .val (.int s0), .val (.int s1), .val (.int s2), .val (.int (0 : Int32)), .val (.int b0), .val (.int b1), .val (.int b2), .val (.int bp), .val (.int pr), .val (.ref b15), .val (.int fc), .val (.int (1 : Int32)), .val (.int (-1 : Int32)), .val (.int (-1 : Int32)), .val (.int (-1 : Int32))] [])) _
      refine XS.iconst X190.here hx rfl (hb hby at_346) ?_
      show Steps p.tables e below (T190.setTop (mkF m 347 #[.val (.int p1), .val (.int p2), .val (.int p3), .val (.int p4), .val (.int p5), .val (.int s0), .val (.int s1), .val (.int s2), .val (.int (0 : Int32)), .val (.int b0), .val (.int b1), .val (.int b2), .val (.int bp), .val (.int pr), .val (.ref b15), .val (.int fc), .val (.int (1 : Int32)), .val (.int (-1 : Int32)), .val (.int (-1 : Int32)), .val (.int (-1 : Int32))] [(.int (1 : Int32))])) _
      refine XS.iload X190.here hx rfl (hb hby at_347) rfl ?_
      show Steps p.tables e below (T190.setTop (mkF m 349 #[.val (.int p1), .val (.int p2), .val (.int p3), .val (.int p4), .val (.int p5), .val (.int s0), .val (.int s1), .val (.int s2), .val (.int (0 : Int32)), .val (.int b0), .val (.int b1), .val (.int b2), .val (.int bp), .val (.int pr), .val (.ref b15), .val (.int fc), .val (.int (1 : Int32)), .val (.int (-1 : Int32)), .val (.int (-1 : Int32)), .val (.int (-1 : Int32))] [(.int (-1 : Int32)), (.int (1 : Int32))])) _
      refine XS.iload X190.here hx rfl (hb hby at_349) rfl ?_
      show Steps p.tables e below (T190.setTop (mkF m 351 #[.val (.int p1), .val (.int p2), .val (.int p3), .val (.int p4), .val (.int p5), .val (.int s0), .val (.int s1), .val (.int s2), .val (.int (0 : Int32)), .val (.int b0), .val (.int b1), .val (.int b2), .val (.int bp), .val (.int pr), .val (.ref b15), .val (.int fc), .val (.int (1 : Int32)), .val (.int (-1 : Int32)), .val (.int (-1 : Int32)), .val (.int (-1 : Int32))] [(.int (0 : Int32)), (.int (-1 : Int32)), (.int (1 : Int32))])) _
      refine XS.iload X190.here hx rfl (hb hby at_351) rfl ?_
      show Steps p.tables e below (T190.setTop (mkF m 353 #[.val (.int p1), .val (.int p2), .val (.int p3), .val (.int p4), .val (.int p5), .val (.int s0), .val (.int s1), .val (.int s2), .val (.int (0 : Int32)), .val (.int b0), .val (.int b1), .val (.int b2), .val (.int bp), .val (.int pr), .val (.ref b15), .val (.int fc), .val (.int (1 : Int32)), .val (.int (-1 : Int32)), .val (.int (-1 : Int32)), .val (.int (-1 : Int32))] [(.int fc), (.int (0 : Int32)), (.int (-1 : Int32)), (.int (1 : Int32))])) _
      refine XS.iload X190.here hx rfl (hb hby at_353) rfl ?_
      show Steps p.tables e below (T190.setTop (mkF m 355 #[.val (.int p1), .val (.int p2), .val (.int p3), .val (.int p4), .val (.int p5), .val (.int s0), .val (.int s1), .val (.int s2), .val (.int (0 : Int32)), .val (.int b0), .val (.int b1), .val (.int b2), .val (.int bp), .val (.int pr), .val (.ref b15), .val (.int fc), .val (.int (1 : Int32)), .val (.int (-1 : Int32)), .val (.int (-1 : Int32)), .val (.int (-1 : Int32))] [(.int s0), (.int fc), (.int (0 : Int32)), (.int (-1 : Int32)), (.int (1 : Int32))])) _
      refine XS.iload X190.here hx rfl (hb hby at_355) rfl ?_
      show Steps p.tables e below (T190.setTop (mkF m 357 #[.val (.int p1), .val (.int p2), .val (.int p3), .val (.int p4), .val (.int p5), .val (.int s0), .val (.int s1), .val (.int s2), .val (.int (0 : Int32)), .val (.int b0), .val (.int b1), .val (.int b2), .val (.int bp), .val (.int pr), .val (.ref b15), .val (.int fc), .val (.int (1 : Int32)), .val (.int (-1 : Int32)), .val (.int (-1 : Int32)), .val (.int (-1 : Int32))] [(.int s1), (.int s0), (.int fc), (.int (0 : Int32)), (.int (-1 : Int32)), (.int (1 : Int32))])) _
      refine XS.iload X190.here hx rfl (hb hby at_357) rfl ?_
      show Steps p.tables e below (T190.setTop (mkF m 359 #[.val (.int p1), .val (.int p2), .val (.int p3), .val (.int p4), .val (.int p5), .val (.int s0), .val (.int s1), .val (.int s2), .val (.int (0 : Int32)), .val (.int b0), .val (.int b1), .val (.int b2), .val (.int bp), .val (.int pr), .val (.ref b15), .val (.int fc), .val (.int (1 : Int32)), .val (.int (-1 : Int32)), .val (.int (-1 : Int32)), .val (.int (-1 : Int32))] [(.int s2), (.int s1), (.int s0), (.int fc), (.int (0 : Int32)), (.int (-1 : Int32)), (.int (1 : Int32))])) _
      refine XS.iloadN X190.here hx rfl (hb hby at_359) rfl ?_
      show Steps p.tables e below (T190.setTop (mkF m 360 #[.val (.int p1), .val (.int p2), .val (.int p3), .val (.int p4), .val (.int p5), .val (.int s0), .val (.int s1), .val (.int s2), .val (.int (0 : Int32)), .val (.int b0), .val (.int b1), .val (.int b2), .val (.int bp), .val (.int pr), .val (.ref b15), .val (.int fc), .val (.int (1 : Int32)), .val (.int (-1 : Int32)), .val (.int (-1 : Int32)), .val (.int (-1 : Int32))] [(.int p4), (.int s2), (.int s1), (.int s0), (.int fc), (.int (0 : Int32)), (.int (-1 : Int32)), (.int (1 : Int32))])) _
      refine st191 _ ?_
      show Steps p.tables e below (T191.setTop (mkF m 363 #[.val (.int p1), .val (.int p2), .val (.int p3), .val (.int p4), .val (.int p5), .val (.int s0), .val (.int s1), .val (.int s2), .val (.int (0 : Int32)), .val (.int b0), .val (.int b1), .val (.int b2), .val (.int bp), .val (.int pr), .val (.ref b15), .val (.int fc), .val (.int (1 : Int32)), .val (.int (-1 : Int32)), .val (.int (-1 : Int32)), .val (.int (-1 : Int32))] [(.int (own_place (1 : Int32) (-1 : Int32) (0 : Int32) fc s0 s1 s2 p4))])) _
      refine XS.ifNo X191.here hx rfl (hb hby at_363) rfl ((if0 _ _).trans (feq (by rw [pl1]; decide)).1) ?_
      show Steps p.tables e below (T191.setTop (mkF m 366 #[.val (.int p1), .val (.int p2), .val (.int p3), .val (.int p4), .val (.int p5), .val (.int s0), .val (.int s1), .val (.int s2), .val (.int (0 : Int32)), .val (.int b0), .val (.int b1), .val (.int b2), .val (.int bp), .val (.int pr), .val (.ref b15), .val (.int fc), .val (.int (1 : Int32)), .val (.int (-1 : Int32)), .val (.int (-1 : Int32)), .val (.int (-1 : Int32))] [])) _
      refine XS.iconst X191.here hx rfl (hb hby at_366) ?_
      show Steps p.tables e below (T191.setTop (mkF m 367 #[.val (.int p1), .val (.int p2), .val (.int p3), .val (.int p4), .val (.int p5), .val (.int s0), .val (.int s1), .val (.int s2), .val (.int (0 : Int32)), .val (.int b0), .val (.int b1), .val (.int b2), .val (.int bp), .val (.int pr), .val (.ref b15), .val (.int fc), .val (.int (1 : Int32)), .val (.int (-1 : Int32)), .val (.int (-1 : Int32)), .val (.int (-1 : Int32))] [(.int (1 : Int32))])) _
      refine XS.goto X191.here hx rfl (pc0 := 367) (pc' := 371) rfl (hb hby at_367) (by decide) (by decide) ?_
      show Steps p.tables e below (T191.setTop (mkF m 371 #[.val (.int p1), .val (.int p2), .val (.int p3), .val (.int p4), .val (.int p5), .val (.int s0), .val (.int s1), .val (.int s2), .val (.int (0 : Int32)), .val (.int b0), .val (.int b1), .val (.int b2), .val (.int bp), .val (.int pr), .val (.ref b15), .val (.int fc), .val (.int (1 : Int32)), .val (.int (-1 : Int32)), .val (.int (-1 : Int32)), .val (.int (-1 : Int32))] [(.int (1 : Int32))])) _
      refine XS.istore X191.here hx rfl (hb hby at_371) rfl (l' := #[.val (.int p1), .val (.int p2), .val (.int p3), .val (.int p4), .val (.int p5), .val (.int s0), .val (.int s1), .val (.int s2), .val (.int (0 : Int32)), .val (.int b0), .val (.int b1), .val (.int b2), .val (.int bp), .val (.int pr), .val (.ref b15), .val (.int fc), .val (.int (1 : Int32)), .val (.int (-1 : Int32)), .val (.int (-1 : Int32)), .val (.int (-1 : Int32))]) rfl ?_
      show Steps p.tables e below (T191.setTop (mkF m 373 #[.val (.int p1), .val (.int p2), .val (.int p3), .val (.int p4), .val (.int p5), .val (.int s0), .val (.int s1), .val (.int s2), .val (.int (0 : Int32)), .val (.int b0), .val (.int b1), .val (.int b2), .val (.int bp), .val (.int pr), .val (.ref b15), .val (.int fc), .val (.int (1 : Int32)), .val (.int (-1 : Int32)), .val (.int (-1 : Int32)), .val (.int (-1 : Int32))] [])) _
      refine XS.iload X191.here hx rfl (hb hby at_373) rfl ?_
      show Steps p.tables e below (T191.setTop (mkF m 375 #[.val (.int p1), .val (.int p2), .val (.int p3), .val (.int p4), .val (.int p5), .val (.int s0), .val (.int s1), .val (.int s2), .val (.int (0 : Int32)), .val (.int b0), .val (.int b1), .val (.int b2), .val (.int bp), .val (.int pr), .val (.ref b15), .val (.int fc), .val (.int (1 : Int32)), .val (.int (-1 : Int32)), .val (.int (-1 : Int32)), .val (.int (-1 : Int32))] [(.int (1 : Int32))])) _
      refine XS.ifNo X191.here hx rfl (hb hby at_375) rfl ((if0 _ _).trans (feq (by decide)).1) ?_
      show Steps p.tables e below (T191.setTop (mkF m 378 #[.val (.int p1), .val (.int p2), .val (.int p3), .val (.int p4), .val (.int p5), .val (.int s0), .val (.int s1), .val (.int s2), .val (.int (0 : Int32)), .val (.int b0), .val (.int b1), .val (.int b2), .val (.int bp), .val (.int pr), .val (.ref b15), .val (.int fc), .val (.int (1 : Int32)), .val (.int (-1 : Int32)), .val (.int (-1 : Int32)), .val (.int (-1 : Int32))] [])) _
      refine XS.iconst X191.here hx rfl (hb hby at_378) ?_
      show Steps p.tables e below (T191.setTop (mkF m 379 #[.val (.int p1), .val (.int p2), .val (.int p3), .val (.int p4), .val (.int p5), .val (.int s0), .val (.int s1), .val (.int s2), .val (.int (0 : Int32)), .val (.int b0), .val (.int b1), .val (.int b2), .val (.int bp), .val (.int pr), .val (.ref b15), .val (.int fc), .val (.int (1 : Int32)), .val (.int (-1 : Int32)), .val (.int (-1 : Int32)), .val (.int (-1 : Int32))] [(.int (2 : Int32))])) _
      refine XS.iload X191.here hx rfl (hb hby at_379) rfl ?_
      show Steps p.tables e below (T191.setTop (mkF m 381 #[.val (.int p1), .val (.int p2), .val (.int p3), .val (.int p4), .val (.int p5), .val (.int s0), .val (.int s1), .val (.int s2), .val (.int (0 : Int32)), .val (.int b0), .val (.int b1), .val (.int b2), .val (.int bp), .val (.int pr), .val (.ref b15), .val (.int fc), .val (.int (1 : Int32)), .val (.int (-1 : Int32)), .val (.int (-1 : Int32)), .val (.int (-1 : Int32))] [(.int (-1 : Int32)), (.int (2 : Int32))])) _
      refine XS.iload X191.here hx rfl (hb hby at_381) rfl ?_
      show Steps p.tables e below (T191.setTop (mkF m 383 #[.val (.int p1), .val (.int p2), .val (.int p3), .val (.int p4), .val (.int p5), .val (.int s0), .val (.int s1), .val (.int s2), .val (.int (0 : Int32)), .val (.int b0), .val (.int b1), .val (.int b2), .val (.int bp), .val (.int pr), .val (.ref b15), .val (.int fc), .val (.int (1 : Int32)), .val (.int (-1 : Int32)), .val (.int (-1 : Int32)), .val (.int (-1 : Int32))] [(.int (0 : Int32)), (.int (-1 : Int32)), (.int (2 : Int32))])) _
      refine XS.iload X191.here hx rfl (hb hby at_383) rfl ?_
      show Steps p.tables e below (T191.setTop (mkF m 385 #[.val (.int p1), .val (.int p2), .val (.int p3), .val (.int p4), .val (.int p5), .val (.int s0), .val (.int s1), .val (.int s2), .val (.int (0 : Int32)), .val (.int b0), .val (.int b1), .val (.int b2), .val (.int bp), .val (.int pr), .val (.ref b15), .val (.int fc), .val (.int (1 : Int32)), .val (.int (-1 : Int32)), .val (.int (-1 : Int32)), .val (.int (-1 : Int32))] [(.int fc), (.int (0 : Int32)), (.int (-1 : Int32)), (.int (2 : Int32))])) _
      refine XS.iload X191.here hx rfl (hb hby at_385) rfl ?_
      show Steps p.tables e below (T191.setTop (mkF m 387 #[.val (.int p1), .val (.int p2), .val (.int p3), .val (.int p4), .val (.int p5), .val (.int s0), .val (.int s1), .val (.int s2), .val (.int (0 : Int32)), .val (.int b0), .val (.int b1), .val (.int b2), .val (.int bp), .val (.int pr), .val (.ref b15), .val (.int fc), .val (.int (1 : Int32)), .val (.int (-1 : Int32)), .val (.int (-1 : Int32)), .val (.int (-1 : Int32))] [(.int s0), (.int fc), (.int (0 : Int32)), (.int (-1 : Int32)), (.int (2 : Int32))])) _
      refine XS.iload X191.here hx rfl (hb hby at_387) rfl ?_
      show Steps p.tables e below (T191.setTop (mkF m 389 #[.val (.int p1), .val (.int p2), .val (.int p3), .val (.int p4), .val (.int p5), .val (.int s0), .val (.int s1), .val (.int s2), .val (.int (0 : Int32)), .val (.int b0), .val (.int b1), .val (.int b2), .val (.int bp), .val (.int pr), .val (.ref b15), .val (.int fc), .val (.int (1 : Int32)), .val (.int (-1 : Int32)), .val (.int (-1 : Int32)), .val (.int (-1 : Int32))] [(.int s1), (.int s0), (.int fc), (.int (0 : Int32)), (.int (-1 : Int32)), (.int (2 : Int32))])) _
      refine XS.iload X191.here hx rfl (hb hby at_389) rfl ?_
      show Steps p.tables e below (T191.setTop (mkF m 391 #[.val (.int p1), .val (.int p2), .val (.int p3), .val (.int p4), .val (.int p5), .val (.int s0), .val (.int s1), .val (.int s2), .val (.int (0 : Int32)), .val (.int b0), .val (.int b1), .val (.int b2), .val (.int bp), .val (.int pr), .val (.ref b15), .val (.int fc), .val (.int (1 : Int32)), .val (.int (-1 : Int32)), .val (.int (-1 : Int32)), .val (.int (-1 : Int32))] [(.int s2), (.int s1), (.int s0), (.int fc), (.int (0 : Int32)), (.int (-1 : Int32)), (.int (2 : Int32))])) _
      refine XS.iloadN X191.here hx rfl (hb hby at_391) rfl ?_
      show Steps p.tables e below (T191.setTop (mkF m 392 #[.val (.int p1), .val (.int p2), .val (.int p3), .val (.int p4), .val (.int p5), .val (.int s0), .val (.int s1), .val (.int s2), .val (.int (0 : Int32)), .val (.int b0), .val (.int b1), .val (.int b2), .val (.int bp), .val (.int pr), .val (.ref b15), .val (.int fc), .val (.int (1 : Int32)), .val (.int (-1 : Int32)), .val (.int (-1 : Int32)), .val (.int (-1 : Int32))] [(.int p4), (.int s2), (.int s1), (.int s0), (.int fc), (.int (0 : Int32)), (.int (-1 : Int32)), (.int (2 : Int32))])) _
      refine st192 _ ?_
      show Steps p.tables e below (T192.setTop (mkF m 395 #[.val (.int p1), .val (.int p2), .val (.int p3), .val (.int p4), .val (.int p5), .val (.int s0), .val (.int s1), .val (.int s2), .val (.int (0 : Int32)), .val (.int b0), .val (.int b1), .val (.int b2), .val (.int bp), .val (.int pr), .val (.ref b15), .val (.int fc), .val (.int (1 : Int32)), .val (.int (-1 : Int32)), .val (.int (-1 : Int32)), .val (.int (-1 : Int32))] [(.int (own_place (2 : Int32) (-1 : Int32) (0 : Int32) fc s0 s1 s2 p4))])) _
      refine XS.ifNo X192.here hx rfl (hb hby at_395) rfl ((if0 _ _).trans (feq (by rw [pl2]; decide)).1) ?_
      show Steps p.tables e below (T192.setTop (mkF m 398 #[.val (.int p1), .val (.int p2), .val (.int p3), .val (.int p4), .val (.int p5), .val (.int s0), .val (.int s1), .val (.int s2), .val (.int (0 : Int32)), .val (.int b0), .val (.int b1), .val (.int b2), .val (.int bp), .val (.int pr), .val (.ref b15), .val (.int fc), .val (.int (1 : Int32)), .val (.int (-1 : Int32)), .val (.int (-1 : Int32)), .val (.int (-1 : Int32))] [])) _
      refine XS.iconst X192.here hx rfl (hb hby at_398) ?_
      show Steps p.tables e below (T192.setTop (mkF m 399 #[.val (.int p1), .val (.int p2), .val (.int p3), .val (.int p4), .val (.int p5), .val (.int s0), .val (.int s1), .val (.int s2), .val (.int (0 : Int32)), .val (.int b0), .val (.int b1), .val (.int b2), .val (.int bp), .val (.int pr), .val (.ref b15), .val (.int fc), .val (.int (1 : Int32)), .val (.int (-1 : Int32)), .val (.int (-1 : Int32)), .val (.int (-1 : Int32))] [(.int (1 : Int32))])) _
      refine XS.goto X192.here hx rfl (pc0 := 399) (pc' := 403) rfl (hb hby at_399) (by decide) (by decide) ?_
      show Steps p.tables e below (T192.setTop (mkF m 403 #[.val (.int p1), .val (.int p2), .val (.int p3), .val (.int p4), .val (.int p5), .val (.int s0), .val (.int s1), .val (.int s2), .val (.int (0 : Int32)), .val (.int b0), .val (.int b1), .val (.int b2), .val (.int bp), .val (.int pr), .val (.ref b15), .val (.int fc), .val (.int (1 : Int32)), .val (.int (-1 : Int32)), .val (.int (-1 : Int32)), .val (.int (-1 : Int32))] [(.int (1 : Int32))])) _
      refine XS.istore X192.here hx rfl (hb hby at_403) rfl (l' := #[.val (.int p1), .val (.int p2), .val (.int p3), .val (.int p4), .val (.int p5), .val (.int s0), .val (.int s1), .val (.int s2), .val (.int (0 : Int32)), .val (.int b0), .val (.int b1), .val (.int b2), .val (.int bp), .val (.int pr), .val (.ref b15), .val (.int fc), .val (.int (1 : Int32)), .val (.int (-1 : Int32)), .val (.int (-1 : Int32)), .val (.int (-1 : Int32))]) rfl ?_
      show Steps p.tables e below (T192.setTop (mkF m 405 #[.val (.int p1), .val (.int p2), .val (.int p3), .val (.int p4), .val (.int p5), .val (.int s0), .val (.int s1), .val (.int s2), .val (.int (0 : Int32)), .val (.int b0), .val (.int b1), .val (.int b2), .val (.int bp), .val (.int pr), .val (.ref b15), .val (.int fc), .val (.int (1 : Int32)), .val (.int (-1 : Int32)), .val (.int (-1 : Int32)), .val (.int (-1 : Int32))] [])) _
      refine XS.iload X192.here hx rfl (hb hby at_405) rfl ?_
      show Steps p.tables e below (T192.setTop (mkF m 407 #[.val (.int p1), .val (.int p2), .val (.int p3), .val (.int p4), .val (.int p5), .val (.int s0), .val (.int s1), .val (.int s2), .val (.int (0 : Int32)), .val (.int b0), .val (.int b1), .val (.int b2), .val (.int bp), .val (.int pr), .val (.ref b15), .val (.int fc), .val (.int (1 : Int32)), .val (.int (-1 : Int32)), .val (.int (-1 : Int32)), .val (.int (-1 : Int32))] [(.int (0 : Int32))])) _
      refine XS.iconst X192.here hx rfl (hb hby at_407) ?_
      show Steps p.tables e below (T192.setTop (mkF m 408 #[.val (.int p1), .val (.int p2), .val (.int p3), .val (.int p4), .val (.int p5), .val (.int s0), .val (.int s1), .val (.int s2), .val (.int (0 : Int32)), .val (.int b0), .val (.int b1), .val (.int b2), .val (.int bp), .val (.int pr), .val (.ref b15), .val (.int fc), .val (.int (1 : Int32)), .val (.int (-1 : Int32)), .val (.int (-1 : Int32)), .val (.int (-1 : Int32))] [(.int (1 : Int32)), (.int (0 : Int32))])) _
      refine XS.icmpYes X192.here hx rfl (pc0 := 408) (pc' := 430) rfl (hb hby at_408) rfl (flt (by decide)).2.2.2 (by decide) (by decide) ?_
      show Steps p.tables e below (T192.setTop (mkF m 430 #[.val (.int p1), .val (.int p2), .val (.int p3), .val (.int p4), .val (.int p5), .val (.int s0), .val (.int s1), .val (.int s2), .val (.int (0 : Int32)), .val (.int b0), .val (.int b1), .val (.int b2), .val (.int bp), .val (.int pr), .val (.ref b15), .val (.int fc), .val (.int (1 : Int32)), .val (.int (-1 : Int32)), .val (.int (-1 : Int32)), .val (.int (-1 : Int32))] [])) _
      refine XS.iload X192.here hx rfl (hb hby at_430) rfl ?_
      show Steps p.tables e below (T192.setTop (mkF m 432 #[.val (.int p1), .val (.int p2), .val (.int p3), .val (.int p4), .val (.int p5), .val (.int s0), .val (.int s1), .val (.int s2), .val (.int (0 : Int32)), .val (.int b0), .val (.int b1), .val (.int b2), .val (.int bp), .val (.int pr), .val (.ref b15), .val (.int fc), .val (.int (1 : Int32)), .val (.int (-1 : Int32)), .val (.int (-1 : Int32)), .val (.int (-1 : Int32))] [(.int (0 : Int32))])) _
      refine XS.iconst X192.here hx rfl (hb hby at_432) ?_
      show Steps p.tables e below (T192.setTop (mkF m 433 #[.val (.int p1), .val (.int p2), .val (.int p3), .val (.int p4), .val (.int p5), .val (.int s0), .val (.int s1), .val (.int s2), .val (.int (0 : Int32)), .val (.int b0), .val (.int b1), .val (.int b2), .val (.int bp), .val (.int pr), .val (.ref b15), .val (.int fc), .val (.int (1 : Int32)), .val (.int (-1 : Int32)), .val (.int (-1 : Int32)), .val (.int (-1 : Int32))] [(.int (2 : Int32)), (.int (0 : Int32))])) _
      refine XS.icmpYes X192.here hx rfl (pc0 := 433) (pc' := 462) rfl (hb hby at_433) rfl (flt (by decide)).2.2.2 (by decide) (by decide) ?_
      show Steps p.tables e below (T192.setTop (mkF m 462 #[.val (.int p1), .val (.int p2), .val (.int p3), .val (.int p4), .val (.int p5), .val (.int s0), .val (.int s1), .val (.int s2), .val (.int (0 : Int32)), .val (.int b0), .val (.int b1), .val (.int b2), .val (.int bp), .val (.int pr), .val (.ref b15), .val (.int fc), .val (.int (1 : Int32)), .val (.int (-1 : Int32)), .val (.int (-1 : Int32)), .val (.int (-1 : Int32))] [])) _
      refine XS.iload X192.here hx rfl (hb hby at_462) rfl ?_
      show Steps p.tables e below (T192.setTop (mkF m 464 #[.val (.int p1), .val (.int p2), .val (.int p3), .val (.int p4), .val (.int p5), .val (.int s0), .val (.int s1), .val (.int s2), .val (.int (0 : Int32)), .val (.int b0), .val (.int b1), .val (.int b2), .val (.int bp), .val (.int pr), .val (.ref b15), .val (.int fc), .val (.int (1 : Int32)), .val (.int (-1 : Int32)), .val (.int (-1 : Int32)), .val (.int (-1 : Int32))] [(.int (1 : Int32))])) _
      refine XS.ifNo X192.here hx rfl (hb hby at_464) rfl ((if0 _ _).trans (feq (by decide)).1) ?_
      show Steps p.tables e below (T192.setTop (mkF m 467 #[.val (.int p1), .val (.int p2), .val (.int p3), .val (.int p4), .val (.int p5), .val (.int s0), .val (.int s1), .val (.int s2), .val (.int (0 : Int32)), .val (.int b0), .val (.int b1), .val (.int b2), .val (.int bp), .val (.int pr), .val (.ref b15), .val (.int fc), .val (.int (1 : Int32)), .val (.int (-1 : Int32)), .val (.int (-1 : Int32)), .val (.int (-1 : Int32))] [])) _
      refine XS.aload X192.here hx rfl (hb hby at_467) rfl rfl ?_
      show Steps p.tables e below (T192.setTop (mkF m 469 #[.val (.int p1), .val (.int p2), .val (.int p3), .val (.int p4), .val (.int p5), .val (.int s0), .val (.int s1), .val (.int s2), .val (.int (0 : Int32)), .val (.int b0), .val (.int b1), .val (.int b2), .val (.int bp), .val (.int pr), .val (.ref b15), .val (.int fc), .val (.int (1 : Int32)), .val (.int (-1 : Int32)), .val (.int (-1 : Int32)), .val (.int (-1 : Int32))] [(.ref b15)])) _
      refine XS.iconst X192.here hx rfl (hb hby at_469) ?_
      show Steps p.tables e below (T192.setTop (mkF m 470 #[.val (.int p1), .val (.int p2), .val (.int p3), .val (.int p4), .val (.int p5), .val (.int s0), .val (.int s1), .val (.int s2), .val (.int (0 : Int32)), .val (.int b0), .val (.int b1), .val (.int b2), .val (.int bp), .val (.int pr), .val (.ref b15), .val (.int fc), .val (.int (1 : Int32)), .val (.int (-1 : Int32)), .val (.int (-1 : Int32)), .val (.int (-1 : Int32))] [(.int (0 : Int32)), (.ref b15)])) _
      refine st193.trans ?_
      show Steps p.tables e below (T193.setTop (mkF m 473 #[.val (.int p1), .val (.int p2), .val (.int p3), .val (.int p4), .val (.int p5), .val (.int s0), .val (.int s1), .val (.int s2), .val (.int (0 : Int32)), .val (.int b0), .val (.int b1), .val (.int b2), .val (.int bp), .val (.int pr), .val (.ref b15), .val (.int fc), .val (.int (1 : Int32)), .val (.int (-1 : Int32)), .val (.int (-1 : Int32)), .val (.int (-1 : Int32))] [(.int (own_ism (0 : Int32) rm0 ((0 + 1) + 1)))])) _
      refine XS.iconst X193.here hx rfl (hb hby at_473) ?_
      show Steps p.tables e below (T193.setTop (mkF m 474 #[.val (.int p1), .val (.int p2), .val (.int p3), .val (.int p4), .val (.int p5), .val (.int s0), .val (.int s1), .val (.int s2), .val (.int (0 : Int32)), .val (.int b0), .val (.int b1), .val (.int b2), .val (.int bp), .val (.int pr), .val (.ref b15), .val (.int fc), .val (.int (1 : Int32)), .val (.int (-1 : Int32)), .val (.int (-1 : Int32)), .val (.int (-1 : Int32))] [(.int (0 : Int32)), (.int (own_ism (0 : Int32) rm0 ((0 + 1) + 1)))])) _
      refine XS.iload X193.here hx rfl (hb hby at_474) rfl ?_
      show Steps p.tables e below (T193.setTop (mkF m 476 #[.val (.int p1), .val (.int p2), .val (.int p3), .val (.int p4), .val (.int p5), .val (.int s0), .val (.int s1), .val (.int s2), .val (.int (0 : Int32)), .val (.int b0), .val (.int b1), .val (.int b2), .val (.int bp), .val (.int pr), .val (.ref b15), .val (.int fc), .val (.int (1 : Int32)), .val (.int (-1 : Int32)), .val (.int (-1 : Int32)), .val (.int (-1 : Int32))] [(.int (0 : Int32)), (.int (0 : Int32)), (.int (own_ism (0 : Int32) rm0 ((0 + 1) + 1)))])) _
      refine XS.iload X193.here hx rfl (hb hby at_476) rfl ?_
      show Steps p.tables e below (T193.setTop (mkF m 478 #[.val (.int p1), .val (.int p2), .val (.int p3), .val (.int p4), .val (.int p5), .val (.int s0), .val (.int s1), .val (.int s2), .val (.int (0 : Int32)), .val (.int b0), .val (.int b1), .val (.int b2), .val (.int bp), .val (.int pr), .val (.ref b15), .val (.int fc), .val (.int (1 : Int32)), .val (.int (-1 : Int32)), .val (.int (-1 : Int32)), .val (.int (-1 : Int32))] [(.int s0), (.int (0 : Int32)), (.int (0 : Int32)), (.int (own_ism (0 : Int32) rm0 ((0 + 1) + 1)))])) _
      refine XS.iload X193.here hx rfl (hb hby at_478) rfl ?_
      show Steps p.tables e below (T193.setTop (mkF m 480 #[.val (.int p1), .val (.int p2), .val (.int p3), .val (.int p4), .val (.int p5), .val (.int s0), .val (.int s1), .val (.int s2), .val (.int (0 : Int32)), .val (.int b0), .val (.int b1), .val (.int b2), .val (.int bp), .val (.int pr), .val (.ref b15), .val (.int fc), .val (.int (1 : Int32)), .val (.int (-1 : Int32)), .val (.int (-1 : Int32)), .val (.int (-1 : Int32))] [(.int s1), (.int s0), (.int (0 : Int32)), (.int (0 : Int32)), (.int (own_ism (0 : Int32) rm0 ((0 + 1) + 1)))])) _
      refine XS.iload X193.here hx rfl (hb hby at_480) rfl ?_
      show Steps p.tables e below (T193.setTop (mkF m 482 #[.val (.int p1), .val (.int p2), .val (.int p3), .val (.int p4), .val (.int p5), .val (.int s0), .val (.int s1), .val (.int s2), .val (.int (0 : Int32)), .val (.int b0), .val (.int b1), .val (.int b2), .val (.int bp), .val (.int pr), .val (.ref b15), .val (.int fc), .val (.int (1 : Int32)), .val (.int (-1 : Int32)), .val (.int (-1 : Int32)), .val (.int (-1 : Int32))] [(.int s2), (.int s1), (.int s0), (.int (0 : Int32)), (.int (0 : Int32)), (.int (own_ism (0 : Int32) rm0 ((0 + 1) + 1)))])) _
      refine st194 _ ?_
      show Steps p.tables e below (T194.setTop (mkF m 485 #[.val (.int p1), .val (.int p2), .val (.int p3), .val (.int p4), .val (.int p5), .val (.int s0), .val (.int s1), .val (.int s2), .val (.int (0 : Int32)), .val (.int b0), .val (.int b1), .val (.int b2), .val (.int bp), .val (.int pr), .val (.ref b15), .val (.int fc), .val (.int (1 : Int32)), .val (.int (-1 : Int32)), .val (.int (-1 : Int32)), .val (.int (-1 : Int32))] [(.int (own_exp (0 : Int32) (0 : Int32) s0 s1 s2)), (.int (own_ism (0 : Int32) rm0 ((0 + 1) + 1)))])) _
      refine XS.icmpNo X194.here hx rfl (hb hby at_485) rfl (teq im0).2 ?_
      show Steps p.tables e below (T194.setTop (mkF m 488 #[.val (.int p1), .val (.int p2), .val (.int p3), .val (.int p4), .val (.int p5), .val (.int s0), .val (.int s1), .val (.int s2), .val (.int (0 : Int32)), .val (.int b0), .val (.int b1), .val (.int b2), .val (.int bp), .val (.int pr), .val (.ref b15), .val (.int fc), .val (.int (1 : Int32)), .val (.int (-1 : Int32)), .val (.int (-1 : Int32)), .val (.int (-1 : Int32))] [])) _
      refine XS.iconst X194.here hx rfl (hb hby at_488) ?_
      show Steps p.tables e below (T194.setTop (mkF m 489 #[.val (.int p1), .val (.int p2), .val (.int p3), .val (.int p4), .val (.int p5), .val (.int s0), .val (.int s1), .val (.int s2), .val (.int (0 : Int32)), .val (.int b0), .val (.int b1), .val (.int b2), .val (.int bp), .val (.int pr), .val (.ref b15), .val (.int fc), .val (.int (1 : Int32)), .val (.int (-1 : Int32)), .val (.int (-1 : Int32)), .val (.int (-1 : Int32))] [(.int (1 : Int32))])) _
      refine XS.goto X194.here hx rfl (pc0 := 489) (pc' := 493) rfl (hb hby at_489) (by decide) (by decide) ?_
      show Steps p.tables e below (T194.setTop (mkF m 493 #[.val (.int p1), .val (.int p2), .val (.int p3), .val (.int p4), .val (.int p5), .val (.int s0), .val (.int s1), .val (.int s2), .val (.int (0 : Int32)), .val (.int b0), .val (.int b1), .val (.int b2), .val (.int bp), .val (.int pr), .val (.ref b15), .val (.int fc), .val (.int (1 : Int32)), .val (.int (-1 : Int32)), .val (.int (-1 : Int32)), .val (.int (-1 : Int32))] [(.int (1 : Int32))])) _
      refine XS.istore X194.here hx rfl (hb hby at_493) rfl (l' := #[.val (.int p1), .val (.int p2), .val (.int p3), .val (.int p4), .val (.int p5), .val (.int s0), .val (.int s1), .val (.int s2), .val (.int (0 : Int32)), .val (.int b0), .val (.int b1), .val (.int b2), .val (.int bp), .val (.int pr), .val (.ref b15), .val (.int fc), .val (.int (1 : Int32)), .val (.int (-1 : Int32)), .val (.int (-1 : Int32)), .val (.int (-1 : Int32))]) rfl ?_
      show Steps p.tables e below (T194.setTop (mkF m 495 #[.val (.int p1), .val (.int p2), .val (.int p3), .val (.int p4), .val (.int p5), .val (.int s0), .val (.int s1), .val (.int s2), .val (.int (0 : Int32)), .val (.int b0), .val (.int b1), .val (.int b2), .val (.int bp), .val (.int pr), .val (.ref b15), .val (.int fc), .val (.int (1 : Int32)), .val (.int (-1 : Int32)), .val (.int (-1 : Int32)), .val (.int (-1 : Int32))] [])) _
      refine XS.iload X194.here hx rfl (hb hby at_495) rfl ?_
      show Steps p.tables e below (T194.setTop (mkF m 497 #[.val (.int p1), .val (.int p2), .val (.int p3), .val (.int p4), .val (.int p5), .val (.int s0), .val (.int s1), .val (.int s2), .val (.int (0 : Int32)), .val (.int b0), .val (.int b1), .val (.int b2), .val (.int bp), .val (.int pr), .val (.ref b15), .val (.int fc), .val (.int (1 : Int32)), .val (.int (-1 : Int32)), .val (.int (-1 : Int32)), .val (.int (-1 : Int32))] [(.int (1 : Int32))])) _
      refine XS.ifNo X194.here hx rfl (hb hby at_497) rfl ((if0 _ _).trans (feq (by decide)).1) ?_
      show Steps p.tables e below (T194.setTop (mkF m 500 #[.val (.int p1), .val (.int p2), .val (.int p3), .val (.int p4), .val (.int p5), .val (.int s0), .val (.int s1), .val (.int s2), .val (.int (0 : Int32)), .val (.int b0), .val (.int b1), .val (.int b2), .val (.int bp), .val (.int pr), .val (.ref b15), .val (.int fc), .val (.int (1 : Int32)), .val (.int (-1 : Int32)), .val (.int (-1 : Int32)), .val (.int (-1 : Int32))] [])) _
      refine XS.aload X194.here hx rfl (hb hby at_500) rfl rfl ?_
      show Steps p.tables e below (T194.setTop (mkF m 502 #[.val (.int p1), .val (.int p2), .val (.int p3), .val (.int p4), .val (.int p5), .val (.int s0), .val (.int s1), .val (.int s2), .val (.int (0 : Int32)), .val (.int b0), .val (.int b1), .val (.int b2), .val (.int bp), .val (.int pr), .val (.ref b15), .val (.int fc), .val (.int (1 : Int32)), .val (.int (-1 : Int32)), .val (.int (-1 : Int32)), .val (.int (-1 : Int32))] [(.ref b15)])) _
      refine XS.iconst X194.here hx rfl (hb hby at_502) ?_
      show Steps p.tables e below (T194.setTop (mkF m 503 #[.val (.int p1), .val (.int p2), .val (.int p3), .val (.int p4), .val (.int p5), .val (.int s0), .val (.int s1), .val (.int s2), .val (.int (0 : Int32)), .val (.int b0), .val (.int b1), .val (.int b2), .val (.int bp), .val (.int pr), .val (.ref b15), .val (.int fc), .val (.int (1 : Int32)), .val (.int (-1 : Int32)), .val (.int (-1 : Int32)), .val (.int (-1 : Int32))] [(.int (1 : Int32)), (.ref b15)])) _
      refine st195.trans ?_
      show Steps p.tables e below (T195.setTop (mkF m 506 #[.val (.int p1), .val (.int p2), .val (.int p3), .val (.int p4), .val (.int p5), .val (.int s0), .val (.int s1), .val (.int s2), .val (.int (0 : Int32)), .val (.int b0), .val (.int b1), .val (.int b2), .val (.int bp), .val (.int pr), .val (.ref b15), .val (.int fc), .val (.int (1 : Int32)), .val (.int (-1 : Int32)), .val (.int (-1 : Int32)), .val (.int (-1 : Int32))] [(.int (own_ism (1 : Int32) rm0 ((0 + 1) + 1)))])) _
      refine XS.iconst X195.here hx rfl (hb hby at_506) ?_
      show Steps p.tables e below (T195.setTop (mkF m 507 #[.val (.int p1), .val (.int p2), .val (.int p3), .val (.int p4), .val (.int p5), .val (.int s0), .val (.int s1), .val (.int s2), .val (.int (0 : Int32)), .val (.int b0), .val (.int b1), .val (.int b2), .val (.int bp), .val (.int pr), .val (.ref b15), .val (.int fc), .val (.int (1 : Int32)), .val (.int (-1 : Int32)), .val (.int (-1 : Int32)), .val (.int (-1 : Int32))] [(.int (1 : Int32)), (.int (own_ism (1 : Int32) rm0 ((0 + 1) + 1)))])) _
      refine XS.iload X195.here hx rfl (hb hby at_507) rfl ?_
      show Steps p.tables e below (T195.setTop (mkF m 509 #[.val (.int p1), .val (.int p2), .val (.int p3), .val (.int p4), .val (.int p5), .val (.int s0), .val (.int s1), .val (.int s2), .val (.int (0 : Int32)), .val (.int b0), .val (.int b1), .val (.int b2), .val (.int bp), .val (.int pr), .val (.ref b15), .val (.int fc), .val (.int (1 : Int32)), .val (.int (-1 : Int32)), .val (.int (-1 : Int32)), .val (.int (-1 : Int32))] [(.int (0 : Int32)), (.int (1 : Int32)), (.int (own_ism (1 : Int32) rm0 ((0 + 1) + 1)))])) _
      refine XS.iload X195.here hx rfl (hb hby at_509) rfl ?_
      show Steps p.tables e below (T195.setTop (mkF m 511 #[.val (.int p1), .val (.int p2), .val (.int p3), .val (.int p4), .val (.int p5), .val (.int s0), .val (.int s1), .val (.int s2), .val (.int (0 : Int32)), .val (.int b0), .val (.int b1), .val (.int b2), .val (.int bp), .val (.int pr), .val (.ref b15), .val (.int fc), .val (.int (1 : Int32)), .val (.int (-1 : Int32)), .val (.int (-1 : Int32)), .val (.int (-1 : Int32))] [(.int s0), (.int (0 : Int32)), (.int (1 : Int32)), (.int (own_ism (1 : Int32) rm0 ((0 + 1) + 1)))])) _
      refine XS.iload X195.here hx rfl (hb hby at_511) rfl ?_
      show Steps p.tables e below (T195.setTop (mkF m 513 #[.val (.int p1), .val (.int p2), .val (.int p3), .val (.int p4), .val (.int p5), .val (.int s0), .val (.int s1), .val (.int s2), .val (.int (0 : Int32)), .val (.int b0), .val (.int b1), .val (.int b2), .val (.int bp), .val (.int pr), .val (.ref b15), .val (.int fc), .val (.int (1 : Int32)), .val (.int (-1 : Int32)), .val (.int (-1 : Int32)), .val (.int (-1 : Int32))] [(.int s1), (.int s0), (.int (0 : Int32)), (.int (1 : Int32)), (.int (own_ism (1 : Int32) rm0 ((0 + 1) + 1)))])) _
      refine XS.iload X195.here hx rfl (hb hby at_513) rfl ?_
      show Steps p.tables e below (T195.setTop (mkF m 515 #[.val (.int p1), .val (.int p2), .val (.int p3), .val (.int p4), .val (.int p5), .val (.int s0), .val (.int s1), .val (.int s2), .val (.int (0 : Int32)), .val (.int b0), .val (.int b1), .val (.int b2), .val (.int bp), .val (.int pr), .val (.ref b15), .val (.int fc), .val (.int (1 : Int32)), .val (.int (-1 : Int32)), .val (.int (-1 : Int32)), .val (.int (-1 : Int32))] [(.int s2), (.int s1), (.int s0), (.int (0 : Int32)), (.int (1 : Int32)), (.int (own_ism (1 : Int32) rm0 ((0 + 1) + 1)))])) _
      refine st196 _ ?_
      show Steps p.tables e below (T196.setTop (mkF m 518 #[.val (.int p1), .val (.int p2), .val (.int p3), .val (.int p4), .val (.int p5), .val (.int s0), .val (.int s1), .val (.int s2), .val (.int (0 : Int32)), .val (.int b0), .val (.int b1), .val (.int b2), .val (.int bp), .val (.int pr), .val (.ref b15), .val (.int fc), .val (.int (1 : Int32)), .val (.int (-1 : Int32)), .val (.int (-1 : Int32)), .val (.int (-1 : Int32))] [(.int (own_exp (1 : Int32) (0 : Int32) s0 s1 s2)), (.int (own_ism (1 : Int32) rm0 ((0 + 1) + 1)))])) _
      refine XS.icmpNo X196.here hx rfl (hb hby at_518) rfl (teq im1).2 ?_
      show Steps p.tables e below (T196.setTop (mkF m 521 #[.val (.int p1), .val (.int p2), .val (.int p3), .val (.int p4), .val (.int p5), .val (.int s0), .val (.int s1), .val (.int s2), .val (.int (0 : Int32)), .val (.int b0), .val (.int b1), .val (.int b2), .val (.int bp), .val (.int pr), .val (.ref b15), .val (.int fc), .val (.int (1 : Int32)), .val (.int (-1 : Int32)), .val (.int (-1 : Int32)), .val (.int (-1 : Int32))] [])) _
      refine XS.iconst X196.here hx rfl (hb hby at_521) ?_
      show Steps p.tables e below (T196.setTop (mkF m 522 #[.val (.int p1), .val (.int p2), .val (.int p3), .val (.int p4), .val (.int p5), .val (.int s0), .val (.int s1), .val (.int s2), .val (.int (0 : Int32)), .val (.int b0), .val (.int b1), .val (.int b2), .val (.int bp), .val (.int pr), .val (.ref b15), .val (.int fc), .val (.int (1 : Int32)), .val (.int (-1 : Int32)), .val (.int (-1 : Int32)), .val (.int (-1 : Int32))] [(.int (1 : Int32))])) _
      refine XS.goto X196.here hx rfl (pc0 := 522) (pc' := 526) rfl (hb hby at_522) (by decide) (by decide) ?_
      show Steps p.tables e below (T196.setTop (mkF m 526 #[.val (.int p1), .val (.int p2), .val (.int p3), .val (.int p4), .val (.int p5), .val (.int s0), .val (.int s1), .val (.int s2), .val (.int (0 : Int32)), .val (.int b0), .val (.int b1), .val (.int b2), .val (.int bp), .val (.int pr), .val (.ref b15), .val (.int fc), .val (.int (1 : Int32)), .val (.int (-1 : Int32)), .val (.int (-1 : Int32)), .val (.int (-1 : Int32))] [(.int (1 : Int32))])) _
      refine XS.istore X196.here hx rfl (hb hby at_526) rfl (l' := #[.val (.int p1), .val (.int p2), .val (.int p3), .val (.int p4), .val (.int p5), .val (.int s0), .val (.int s1), .val (.int s2), .val (.int (0 : Int32)), .val (.int b0), .val (.int b1), .val (.int b2), .val (.int bp), .val (.int pr), .val (.ref b15), .val (.int fc), .val (.int (1 : Int32)), .val (.int (-1 : Int32)), .val (.int (-1 : Int32)), .val (.int (-1 : Int32))]) rfl ?_
      show Steps p.tables e below (T196.setTop (mkF m 528 #[.val (.int p1), .val (.int p2), .val (.int p3), .val (.int p4), .val (.int p5), .val (.int s0), .val (.int s1), .val (.int s2), .val (.int (0 : Int32)), .val (.int b0), .val (.int b1), .val (.int b2), .val (.int bp), .val (.int pr), .val (.ref b15), .val (.int fc), .val (.int (1 : Int32)), .val (.int (-1 : Int32)), .val (.int (-1 : Int32)), .val (.int (-1 : Int32))] [])) _
      refine XS.iload X196.here hx rfl (hb hby at_528) rfl ?_
      show Steps p.tables e below (T196.setTop (mkF m 530 #[.val (.int p1), .val (.int p2), .val (.int p3), .val (.int p4), .val (.int p5), .val (.int s0), .val (.int s1), .val (.int s2), .val (.int (0 : Int32)), .val (.int b0), .val (.int b1), .val (.int b2), .val (.int bp), .val (.int pr), .val (.ref b15), .val (.int fc), .val (.int (1 : Int32)), .val (.int (-1 : Int32)), .val (.int (-1 : Int32)), .val (.int (-1 : Int32))] [(.int (1 : Int32))])) _
      refine XS.ifNo X196.here hx rfl (hb hby at_530) rfl ((if0 _ _).trans (feq (by decide)).1) ?_
      show Steps p.tables e below (T196.setTop (mkF m 533 #[.val (.int p1), .val (.int p2), .val (.int p3), .val (.int p4), .val (.int p5), .val (.int s0), .val (.int s1), .val (.int s2), .val (.int (0 : Int32)), .val (.int b0), .val (.int b1), .val (.int b2), .val (.int bp), .val (.int pr), .val (.ref b15), .val (.int fc), .val (.int (1 : Int32)), .val (.int (-1 : Int32)), .val (.int (-1 : Int32)), .val (.int (-1 : Int32))] [])) _
      refine XS.aload X196.here hx rfl (hb hby at_533) rfl rfl ?_
      show Steps p.tables e below (T196.setTop (mkF m 535 #[.val (.int p1), .val (.int p2), .val (.int p3), .val (.int p4), .val (.int p5), .val (.int s0), .val (.int s1), .val (.int s2), .val (.int (0 : Int32)), .val (.int b0), .val (.int b1), .val (.int b2), .val (.int bp), .val (.int pr), .val (.ref b15), .val (.int fc), .val (.int (1 : Int32)), .val (.int (-1 : Int32)), .val (.int (-1 : Int32)), .val (.int (-1 : Int32))] [(.ref b15)])) _
      refine XS.iconst X196.here hx rfl (hb hby at_535) ?_
      show Steps p.tables e below (T196.setTop (mkF m 536 #[.val (.int p1), .val (.int p2), .val (.int p3), .val (.int p4), .val (.int p5), .val (.int s0), .val (.int s1), .val (.int s2), .val (.int (0 : Int32)), .val (.int b0), .val (.int b1), .val (.int b2), .val (.int bp), .val (.int pr), .val (.ref b15), .val (.int fc), .val (.int (1 : Int32)), .val (.int (-1 : Int32)), .val (.int (-1 : Int32)), .val (.int (-1 : Int32))] [(.int (2 : Int32)), (.ref b15)])) _
      refine st197.trans ?_
      show Steps p.tables e below (T197.setTop (mkF m 539 #[.val (.int p1), .val (.int p2), .val (.int p3), .val (.int p4), .val (.int p5), .val (.int s0), .val (.int s1), .val (.int s2), .val (.int (0 : Int32)), .val (.int b0), .val (.int b1), .val (.int b2), .val (.int bp), .val (.int pr), .val (.ref b15), .val (.int fc), .val (.int (1 : Int32)), .val (.int (-1 : Int32)), .val (.int (-1 : Int32)), .val (.int (-1 : Int32))] [(.int (own_ism (2 : Int32) rm0 ((0 + 1) + 1)))])) _
      refine XS.iconst X197.here hx rfl (hb hby at_539) ?_
      show Steps p.tables e below (T197.setTop (mkF m 540 #[.val (.int p1), .val (.int p2), .val (.int p3), .val (.int p4), .val (.int p5), .val (.int s0), .val (.int s1), .val (.int s2), .val (.int (0 : Int32)), .val (.int b0), .val (.int b1), .val (.int b2), .val (.int bp), .val (.int pr), .val (.ref b15), .val (.int fc), .val (.int (1 : Int32)), .val (.int (-1 : Int32)), .val (.int (-1 : Int32)), .val (.int (-1 : Int32))] [(.int (2 : Int32)), (.int (own_ism (2 : Int32) rm0 ((0 + 1) + 1)))])) _
      refine XS.iload X197.here hx rfl (hb hby at_540) rfl ?_
      show Steps p.tables e below (T197.setTop (mkF m 542 #[.val (.int p1), .val (.int p2), .val (.int p3), .val (.int p4), .val (.int p5), .val (.int s0), .val (.int s1), .val (.int s2), .val (.int (0 : Int32)), .val (.int b0), .val (.int b1), .val (.int b2), .val (.int bp), .val (.int pr), .val (.ref b15), .val (.int fc), .val (.int (1 : Int32)), .val (.int (-1 : Int32)), .val (.int (-1 : Int32)), .val (.int (-1 : Int32))] [(.int (0 : Int32)), (.int (2 : Int32)), (.int (own_ism (2 : Int32) rm0 ((0 + 1) + 1)))])) _
      refine XS.iload X197.here hx rfl (hb hby at_542) rfl ?_
      show Steps p.tables e below (T197.setTop (mkF m 544 #[.val (.int p1), .val (.int p2), .val (.int p3), .val (.int p4), .val (.int p5), .val (.int s0), .val (.int s1), .val (.int s2), .val (.int (0 : Int32)), .val (.int b0), .val (.int b1), .val (.int b2), .val (.int bp), .val (.int pr), .val (.ref b15), .val (.int fc), .val (.int (1 : Int32)), .val (.int (-1 : Int32)), .val (.int (-1 : Int32)), .val (.int (-1 : Int32))] [(.int s0), (.int (0 : Int32)), (.int (2 : Int32)), (.int (own_ism (2 : Int32) rm0 ((0 + 1) + 1)))])) _
      refine XS.iload X197.here hx rfl (hb hby at_544) rfl ?_
      show Steps p.tables e below (T197.setTop (mkF m 546 #[.val (.int p1), .val (.int p2), .val (.int p3), .val (.int p4), .val (.int p5), .val (.int s0), .val (.int s1), .val (.int s2), .val (.int (0 : Int32)), .val (.int b0), .val (.int b1), .val (.int b2), .val (.int bp), .val (.int pr), .val (.ref b15), .val (.int fc), .val (.int (1 : Int32)), .val (.int (-1 : Int32)), .val (.int (-1 : Int32)), .val (.int (-1 : Int32))] [(.int s1), (.int s0), (.int (0 : Int32)), (.int (2 : Int32)), (.int (own_ism (2 : Int32) rm0 ((0 + 1) + 1)))])) _
      refine XS.iload X197.here hx rfl (hb hby at_546) rfl ?_
      show Steps p.tables e below (T197.setTop (mkF m 548 #[.val (.int p1), .val (.int p2), .val (.int p3), .val (.int p4), .val (.int p5), .val (.int s0), .val (.int s1), .val (.int s2), .val (.int (0 : Int32)), .val (.int b0), .val (.int b1), .val (.int b2), .val (.int bp), .val (.int pr), .val (.ref b15), .val (.int fc), .val (.int (1 : Int32)), .val (.int (-1 : Int32)), .val (.int (-1 : Int32)), .val (.int (-1 : Int32))] [(.int s2), (.int s1), (.int s0), (.int (0 : Int32)), (.int (2 : Int32)), (.int (own_ism (2 : Int32) rm0 ((0 + 1) + 1)))])) _
      refine st198 _ ?_
      show Steps p.tables e below (T198.setTop (mkF m 551 #[.val (.int p1), .val (.int p2), .val (.int p3), .val (.int p4), .val (.int p5), .val (.int s0), .val (.int s1), .val (.int s2), .val (.int (0 : Int32)), .val (.int b0), .val (.int b1), .val (.int b2), .val (.int bp), .val (.int pr), .val (.ref b15), .val (.int fc), .val (.int (1 : Int32)), .val (.int (-1 : Int32)), .val (.int (-1 : Int32)), .val (.int (-1 : Int32))] [(.int (own_exp (2 : Int32) (0 : Int32) s0 s1 s2)), (.int (own_ism (2 : Int32) rm0 ((0 + 1) + 1)))])) _
      refine XS.icmpNo X198.here hx rfl (hb hby at_551) rfl (teq im2).2 ?_
      show Steps p.tables e below (T198.setTop (mkF m 554 #[.val (.int p1), .val (.int p2), .val (.int p3), .val (.int p4), .val (.int p5), .val (.int s0), .val (.int s1), .val (.int s2), .val (.int (0 : Int32)), .val (.int b0), .val (.int b1), .val (.int b2), .val (.int bp), .val (.int pr), .val (.ref b15), .val (.int fc), .val (.int (1 : Int32)), .val (.int (-1 : Int32)), .val (.int (-1 : Int32)), .val (.int (-1 : Int32))] [])) _
      refine XS.iconst X198.here hx rfl (hb hby at_554) ?_
      show Steps p.tables e below (T198.setTop (mkF m 555 #[.val (.int p1), .val (.int p2), .val (.int p3), .val (.int p4), .val (.int p5), .val (.int s0), .val (.int s1), .val (.int s2), .val (.int (0 : Int32)), .val (.int b0), .val (.int b1), .val (.int b2), .val (.int bp), .val (.int pr), .val (.ref b15), .val (.int fc), .val (.int (1 : Int32)), .val (.int (-1 : Int32)), .val (.int (-1 : Int32)), .val (.int (-1 : Int32))] [(.int (1 : Int32))])) _
      refine XS.goto X198.here hx rfl (pc0 := 555) (pc' := 559) rfl (hb hby at_555) (by decide) (by decide) ?_
      show Steps p.tables e below (T198.setTop (mkF m 559 #[.val (.int p1), .val (.int p2), .val (.int p3), .val (.int p4), .val (.int p5), .val (.int s0), .val (.int s1), .val (.int s2), .val (.int (0 : Int32)), .val (.int b0), .val (.int b1), .val (.int b2), .val (.int bp), .val (.int pr), .val (.ref b15), .val (.int fc), .val (.int (1 : Int32)), .val (.int (-1 : Int32)), .val (.int (-1 : Int32)), .val (.int (-1 : Int32))] [(.int (1 : Int32))])) _
      refine XS.istore X198.here hx rfl (hb hby at_559) rfl (l' := #[.val (.int p1), .val (.int p2), .val (.int p3), .val (.int p4), .val (.int p5), .val (.int s0), .val (.int s1), .val (.int s2), .val (.int (0 : Int32)), .val (.int b0), .val (.int b1), .val (.int b2), .val (.int bp), .val (.int pr), .val (.ref b15), .val (.int fc), .val (.int (1 : Int32)), .val (.int (-1 : Int32)), .val (.int (-1 : Int32)), .val (.int (-1 : Int32))]) rfl ?_
      show Steps p.tables e below (T198.setTop (mkF m 561 #[.val (.int p1), .val (.int p2), .val (.int p3), .val (.int p4), .val (.int p5), .val (.int s0), .val (.int s1), .val (.int s2), .val (.int (0 : Int32)), .val (.int b0), .val (.int b1), .val (.int b2), .val (.int bp), .val (.int pr), .val (.ref b15), .val (.int fc), .val (.int (1 : Int32)), .val (.int (-1 : Int32)), .val (.int (-1 : Int32)), .val (.int (-1 : Int32))] [])) _
      refine XS.iload X198.here hx rfl (hb hby at_561) rfl ?_
      exact k)
    obtain ⟨fs, hr, hrun, hended, hW, hsame⟩ := X198.leave (v := some (.int (1 : Int32))) (fun h => by rw [Bd.returns] at h; cases h) (BodyLoose.notSynchronized Bd)
    refine ⟨_, _, k200 _ ?_, hrun, hended, _, _, rfl, ?_, ⟨_, rfl⟩, hW, hsame.mono (by decide) (by decide)⟩
    · show Steps p.tables e below (T198.setTop (mkF m 563 #[.val (.int p1), .val (.int p2), .val (.int p3), .val (.int p4), .val (.int p5), .val (.int s0), .val (.int s1), .val (.int s2), .val (.int (0 : Int32)), .val (.int b0), .val (.int b1), .val (.int b2), .val (.int bp), .val (.int pr), .val (.ref b15), .val (.int fc), .val (.int (1 : Int32)), .val (.int (-1 : Int32)), .val (.int (-1 : Int32)), .val (.int (-1 : Int32))] [(.int (1 : Int32))])) _
      exact retN X198 hx (t := .boolean) Bd.returns (by simp) (hb hby at_563) hr
    ·
      show Qlaw _ p1 p2 p3 p4 p5 h0 n0 _ T198.heap _
      rw [he12]
      exact ⟨rfl, N198⟩
  ·
    obtain ⟨cq201, kq201, q201a, q201b, q201c⟩ := isOf hZ rfl E179
    obtain ⟨_, _, ⟨T201, L201, kk201, n201⟩, -, X201, ⟨Lc201, hQ201, l201, y201, z201⟩, st201⟩ := X176.virtualBack hx (y := (⟨"com/example/ariadne/ariadne/algo/SplitSearch", "mark", "(IZ)V"⟩ : MethodName)) (z := (⟨"com/example/ariadne/ariadne/algo/SplitSearch", "mark", "(IZ)V"⟩ : MethodName)) hown (mvT hZ (hw _ (List.mem_of_getElem? (i := 48) rfl))) (mvT hZ (hw _ (List.mem_of_getElem? (i := 49) rfl))) (notFace_of_selects (args := #[]) (mvT hZ (hw _ (List.mem_of_getElem? (i := 51) rfl)))) (mvT hZ (hw _ (List.mem_of_getElem? (i := 51) rfl))) (mvT hZ (hw _ (List.mem_of_getElem? (i := 50) rfl))) (by decide) (backOf (W := 0) (rm_mark l Z a0 hw [] b15 s0 b0 ((0 + 1) + 1) 0 0 re0 rm0 ae am ke km T176.heap n0 (Nat.le_trans Z0 K177.1) Sn3 nea neb nem g_b15 g_ae g_am (own_lt3 hs0) (by decide) (by decide) lre0 lrm0) hZ (hw _ (List.mem_of_getElem? (i := 52) rfl)) (hw _ (List.mem_of_getElem? (i := 3) rfl)) (by decide) (by decide)) q201a q201c (g := (mkF m 155 #[.val (.int p1), .val (.int p2), .val (.int p3), .val (.int p4), .val (.int p5), .val (.int s0), .val (.int s1), .val (.int s2), .val (.int (1 : Int32)), .val (.int b0), .val (.int b1), .val (.int b2), .val (.int bp), .val (.int pr), .val (.ref b15), .unset, .unset, .unset, .unset, .unset] [(.int b0), (.int s0), (.ref b15)])) rfl (by rw [hml]; rfl) (Steps.refl _) (argsL := [(.int s0), (.int b0)]) (rest := []) (lenOf pd__IZ_V rfl) rfl (by show 2 * 0 + _ ≤ _; exact Nat.le_of_eq rfl) (hb hby at_155) (fun _ _ => ⟨rfl, rfl, (by decide : 11 + 0 ≤ _), (by decide : 48 + 0 ≤ _)⟩)
    dsimp only [Pt.U, Pt.locs, Pt.cells, Pt.slots] at X201 l201 y201 z201 st201 hQ201
    subst l201 y201 z201
    obtain ⟨rfl, N201q, Kn13, Sn13⟩ := hQ201
    have N201 := Fr.app N176 N201q
    have K202 : Keep h0 T201.heap [] := K177.trans Kn13 (allS (Or.inr sz_b15) (allS (Or.inr sz_ae) (allS (Or.inr sz_am) all0)))
    have E203 : Exa Z T201.heap b15 "com/example/ariadne/ariadne/algo/SplitSearch" := E179.keep Kn13
    obtain ⟨re1, hre1⟩ : ∃ z : List Int32, z = own_re s0 b0 0 0 re0 := ⟨_, rfl⟩
    rw [← hre1] at Sn13
    obtain ⟨rm1, hrm1⟩ : ∃ z : List Int32, z = (rm0 : List Int32).set s0.toNatClampNeg ((0 + 1) + 1) := ⟨_, rfl⟩
    rw [← hrm1] at Sn13
    have lre1 : re1.length = 3 := by rw [hre1, own_re_len]; exact lre0
    have lrm1 : rm1.length = 3 := by rw [hrm1, List.length_set]; exact lrm0
    obtain ⟨fm1, hfm1⟩ : ∃ z : Int32, z = own_fm b0 0 := ⟨_, rfl⟩
    rw [← hfm1] at Sn13
    have E204 : Exa Z T201.heap b15 "com/example/ariadne/ariadne/algo/SplitSearch" := Sn13.1
    have k205 : ∀ t, Steps p.tables e below (T201.setTop (mkF m 190 #[.val (.int p1), .val (.int p2), .val (.int p3), .val (.int p4), .val (.int p5), .val (.int s0), .val (.int s1), .val (.int s2), .val (.int (1 : Int32)), .val (.int b0), .val (.int b1), .val (.int b2), .val (.int bp), .val (.int pr), .val (.ref b15), .unset, .unset, .unset, .unset, .unset] [(.int (1 : Int32))])) t → Steps p.tables e below (s₁.setTop (entryFrame m #[(.int p1), (.int p2), (.int p3), (.int p4), (.int p5)] maxLocals)) t := fun t k => k180 t (by
      show Steps p.tables e below (T176.setTop (mkF m 146 #[.val (.int p1), .val (.int p2), .val (.int p3), .val (.int p4), .val (.int p5), .val (.int s0), .val (.int s1), .val (.int s2), .val (.int (1 : Int32)), .val (.int b0), .val (.int b1), .val (.int b2), .val (.int bp), .val (.int pr), .val (.ref b15), .unset, .unset, .unset, .unset, .unset] [(.int (1 : Int32))])) _
      refine XS.ifNo X176.here hx rfl (hb hby at_146) rfl ((if0 _ _).trans (tlt (by decide)).2.2.2) ?_
      show Steps p.tables e below (T176.setTop (mkF m 149 #[.val (.int p1), .val (.int p2), .val (.int p3), .val (.int p4), .val (.int p5), .val (.int s0), .val (.int s1), .val (.int s2), .val (.int (1 : Int32)), .val (.int b0), .val (.int b1), .val (.int b2), .val (.int bp), .val (.int pr), .val (.ref b15), .unset, .unset, .unset, .unset, .unset] [])) _
      refine XS.aload X176.here hx rfl (hb hby at_149) rfl rfl ?_
      show Steps p.tables e below (T176.setTop (mkF m 151 #[.val (.int p1), .val (.int p2), .val (.int p3), .val (.int p4), .val (.int p5), .val (.int s0), .val (.int s1), .val (.int s2), .val (.int (1 : Int32)), .val (.int b0), .val (.int b1), .val (.int b2), .val (.int bp), .val (.int pr), .val (.ref b15), .unset, .unset, .unset, .unset, .unset] [(.ref b15)])) _
      refine XS.iload X176.here hx rfl (hb hby at_151) rfl ?_
      show Steps p.tables e below (T176.setTop (mkF m 153 #[.val (.int p1), .val (.int p2), .val (.int p3), .val (.int p4), .val (.int p5), .val (.int s0), .val (.int s1), .val (.int s2), .val (.int (1 : Int32)), .val (.int b0), .val (.int b1), .val (.int b2), .val (.int bp), .val (.int pr), .val (.ref b15), .unset, .unset, .unset, .unset, .unset] [(.int s0), (.ref b15)])) _
      refine XS.iload X176.here hx rfl (hb hby at_153) rfl ?_
      show Steps p.tables e below (T176.setTop (mkF m 155 #[.val (.int p1), .val (.int p2), .val (.int p3), .val (.int p4), .val (.int p5), .val (.int s0), .val (.int s1), .val (.int s2), .val (.int (1 : Int32)), .val (.int b0), .val (.int b1), .val (.int b2), .val (.int bp), .val (.int pr), .val (.ref b15), .unset, .unset, .unset, .unset, .unset] [(.int b0), (.int s0), (.ref b15)])) _
      refine st201.trans ?_
      show Steps p.tables e below (T201.setTop (mkF m 158 #[.val (.int p1), .val (.int p2), .val (.int p3), .val (.int p4), .val (.int p5), .val (.int s0), .val (.int s1), .val (.int s2), .val (.int (1 : Int32)), .val (.int b0), .val (.int b1), .val (.int b2), .val (.int bp), .val (.int pr), .val (.ref b15), .unset, .unset, .unset, .unset, .unset] [])) _
      refine XS.iload X201.here hx rfl (hb hby at_158) rfl ?_
      show Steps p.tables e below (T201.setTop (mkF m 160 #[.val (.int p1), .val (.int p2), .val (.int p3), .val (.int p4), .val (.int p5), .val (.int s0), .val (.int s1), .val (.int s2), .val (.int (1 : Int32)), .val (.int b0), .val (.int b1), .val (.int b2), .val (.int bp), .val (.int pr), .val (.ref b15), .unset, .unset, .unset, .unset, .unset] [(.int (1 : Int32))])) _
      refine XS.iconst X201.here hx rfl (hb hby at_160) ?_
      show Steps p.tables e below (T201.setTop (mkF m 161 #[.val (.int p1), .val (.int p2), .val (.int p3), .val (.int p4), .val (.int p5), .val (.int s0), .val (.int s1), .val (.int s2), .val (.int (1 : Int32)), .val (.int b0), .val (.int b1), .val (.int b2), .val (.int bp), .val (.int pr), .val (.ref b15), .unset, .unset, .unset, .unset, .unset] [(.int (1 : Int32)), (.int (1 : Int32))])) _
      refine XS.icmpYes X201.here hx rfl (pc0 := 161) (pc' := 173) rfl (hb hby at_161) rfl (flt (by decide)).2.2.2 (by decide) (by decide) ?_
      show Steps p.tables e below (T201.setTop (mkF m 173 #[.val (.int p1), .val (.int p2), .val (.int p3), .val (.int p4), .val (.int p5), .val (.int s0), .val (.int s1), .val (.int s2), .val (.int (1 : Int32)), .val (.int b0), .val (.int b1), .val (.int b2), .val (.int bp), .val (.int pr), .val (.ref b15), .unset, .unset, .unset, .unset, .unset] [])) _
      refine XS.iload X201.here hx rfl (hb hby at_173) rfl ?_
      show Steps p.tables e below (T201.setTop (mkF m 175 #[.val (.int p1), .val (.int p2), .val (.int p3), .val (.int p4), .val (.int p5), .val (.int s0), .val (.int s1), .val (.int s2), .val (.int (1 : Int32)), .val (.int b0), .val (.int b1), .val (.int b2), .val (.int bp), .val (.int pr), .val (.ref b15), .unset, .unset, .unset, .unset, .unset] [(.int (1 : Int32))])) _
      refine XS.iconst X201.here hx rfl (hb hby at_175) ?_
      show Steps p.tables e below (T201.setTop (mkF m 176 #[.val (.int p1), .val (.int p2), .val (.int p3), .val (.int p4), .val (.int p5), .val (.int s0), .val (.int s1), .val (.int s2), .val (.int (1 : Int32)), .val (.int b0), .val (.int b1), .val (.int b2), .val (.int bp), .val (.int pr), .val (.ref b15), .unset, .unset, .unset, .unset, .unset] [(.int (2 : Int32)), (.int (1 : Int32))])) _
      refine XS.icmpYes X201.here hx rfl (pc0 := 176) (pc' := 188) rfl (hb hby at_176) rfl (flt (by decide)).2.2.2 (by decide) (by decide) ?_
      show Steps p.tables e below (T201.setTop (mkF m 188 #[.val (.int p1), .val (.int p2), .val (.int p3), .val (.int p4), .val (.int p5), .val (.int s0), .val (.int s1), .val (.int s2), .val (.int (1 : Int32)), .val (.int b0), .val (.int b1), .val (.int b2), .val (.int bp), .val (.int pr), .val (.ref b15), .unset, .unset, .unset, .unset, .unset] [])) _
      refine XS.iload X201.here hx rfl (hb hby at_188) rfl ?_
      exact k)
    obtain ⟨x0, hd_x0⟩ : ∃ z : Int32, z = (if b0 = (0 : Int32) then (0 : Int32) else (1 : Int32)) := ⟨_, rfl⟩
    have k206 : ∀ t, Steps p.tables e below (T201.setTop (mkF m 203 #[.val (.int p1), .val (.int p2), .val (.int p3), .val (.int p4), .val (.int p5), .val (.int s0), .val (.int s1), .val (.int s2), .val (.int (1 : Int32)), .val (.int b0), .val (.int b1), .val (.int b2), .val (.int bp), .val (.int pr), .val (.ref b15), .unset, .unset, .unset, .unset, .unset] [(.int x0)])) t → Steps p.tables e below (s₁.setTop (entryFrame m #[(.int p1), (.int p2), (.int p3), (.int p4), (.int p5)] maxLocals)) t := fun t k => k205 t (by
      show Steps p.tables e below (T201.setTop (mkF m 190 #[.val (.int p1), .val (.int p2), .val (.int p3), .val (.int p4), .val (.int p5), .val (.int s0), .val (.int s1), .val (.int s2), .val (.int (1 : Int32)), .val (.int b0), .val (.int b1), .val (.int b2), .val (.int bp), .val (.int pr), .val (.ref b15), .unset, .unset, .unset, .unset, .unset] [(.int (1 : Int32))])) _
      refine XS.ifNo X201.here hx rfl (hb hby at_190) rfl ((if0 _ _).trans (tlt (by decide)).2.2.2) ?_
      show Steps p.tables e below (T201.setTop (mkF m 193 #[.val (.int p1), .val (.int p2), .val (.int p3), .val (.int p4), .val (.int p5), .val (.int s0), .val (.int s1), .val (.int s2), .val (.int (1 : Int32)), .val (.int b0), .val (.int b1), .val (.int b2), .val (.int bp), .val (.int pr), .val (.ref b15), .unset, .unset, .unset, .unset, .unset] [])) _
      refine XS.iload X201.here hx rfl (hb hby at_193) rfl ?_
      by_cases c195 : b0 = (0 : Int32)
      ·
        show Steps p.tables e below (T201.setTop (mkF m 195 #[.val (.int p1), .val (.int p2), .val (.int p3), .val (.int p4), .val (.int p5), .val (.int s0), .val (.int s1), .val (.int s2), .val (.int (1 : Int32)), .val (.int b0), .val (.int b1), .val (.int b2), .val (.int bp), .val (.int pr), .val (.ref b15), .unset, .unset, .unset, .unset, .unset] [(.int b0)])) _
        refine XS.ifYes X201.here hx rfl (pc0 := 195) (pc' := 202) rfl (hb hby at_195) rfl ((if0 _ _).trans (teq c195).1) (by decide) (by decide) ?_
        show Steps p.tables e below (T201.setTop (mkF m 202 #[.val (.int p1), .val (.int p2), .val (.int p3), .val (.int p4), .val (.int p5), .val (.int s0), .val (.int s1), .val (.int s2), .val (.int (1 : Int32)), .val (.int b0), .val (.int b1), .val (.int b2), .val (.int bp), .val (.int pr), .val (.ref b15), .unset, .unset, .unset, .unset, .unset] [])) _
        refine XS.iconst X201.here hx rfl (hb hby at_202) ?_
        simp only [if_pos c195] at hd_x0
        rw [hd_x0] at k
        exact k
      ·
        show Steps p.tables e below (T201.setTop (mkF m 195 #[.val (.int p1), .val (.int p2), .val (.int p3), .val (.int p4), .val (.int p5), .val (.int s0), .val (.int s1), .val (.int s2), .val (.int (1 : Int32)), .val (.int b0), .val (.int b1), .val (.int b2), .val (.int bp), .val (.int pr), .val (.ref b15), .unset, .unset, .unset, .unset, .unset] [(.int b0)])) _
        refine XS.ifNo X201.here hx rfl (hb hby at_195) rfl ((if0 _ _).trans (feq c195).1) ?_
        show Steps p.tables e below (T201.setTop (mkF m 198 #[.val (.int p1), .val (.int p2), .val (.int p3), .val (.int p4), .val (.int p5), .val (.int s0), .val (.int s1), .val (.int s2), .val (.int (1 : Int32)), .val (.int b0), .val (.int b1), .val (.int b2), .val (.int bp), .val (.int pr), .val (.ref b15), .unset, .unset, .unset, .unset, .unset] [])) _
        refine XS.iconst X201.here hx rfl (hb hby at_198) ?_
        show Steps p.tables e below (T201.setTop (mkF m 199 #[.val (.int p1), .val (.int p2), .val (.int p3), .val (.int p4), .val (.int p5), .val (.int s0), .val (.int s1), .val (.int s2), .val (.int (1 : Int32)), .val (.int b0), .val (.int b1), .val (.int b2), .val (.int bp), .val (.int pr), .val (.ref b15), .unset, .unset, .unset, .unset, .unset] [(.int (1 : Int32))])) _
        refine XS.goto X201.here hx rfl (pc0 := 199) (pc' := 203) rfl (hb hby at_199) (by decide) (by decide) ?_
        simp only [if_neg c195] at hd_x0
        rw [hd_x0] at k
        exact k)
    have k207 : ∀ t, Steps p.tables e below (T201.setTop (mkF m 206 #[.val (.int p1), .val (.int p2), .val (.int p3), .val (.int p4), .val (.int p5), .val (.int s0), .val (.int s1), .val (.int s2), .val (.int (1 : Int32)), .val (.int b0), .val (.int b1), .val (.int b2), .val (.int bp), .val (.int pr), .val (.ref b15), .unset, .unset, .unset, .unset, .unset] [(.int (1 : Int32)), (.int (1 : Int32)), (.int x0)])) t → Steps p.tables e below (s₁.setTop (entryFrame m #[(.int p1), (.int p2), (.int p3), (.int p4), (.int p5)] maxLocals)) t := fun t k => k206 t (by
      show Steps p.tables e below (T201.setTop (mkF m 203 #[.val (.int p1), .val (.int p2), .val (.int p3), .val (.int p4), .val (.int p5), .val (.int s0), .val (.int s1), .val (.int s2), .val (.int (1 : Int32)), .val (.int b0), .val (.int b1), .val (.int b2), .val (.int bp), .val (.int pr), .val (.ref b15), .unset, .unset, .unset, .unset, .unset] [(.int x0)])) _
      refine XS.iload X201.here hx rfl (hb hby at_203) rfl ?_
      show Steps p.tables e below (T201.setTop (mkF m 205 #[.val (.int p1), .val (.int p2), .val (.int p3), .val (.int p4), .val (.int p5), .val (.int s0), .val (.int s1), .val (.int s2), .val (.int (1 : Int32)), .val (.int b0), .val (.int b1), .val (.int b2), .val (.int bp), .val (.int pr), .val (.ref b15), .unset, .unset, .unset, .unset, .unset] [(.int (1 : Int32)), (.int x0)])) _
      refine XS.iconst X201.here hx rfl (hb hby at_205) ?_
      exact k)
    have k208 : ∀ t, Steps p.tables e below (T201.setTop (mkF m 219 #[.val (.int p1), .val (.int p2), .val (.int p3), .val (.int p4), .val (.int p5), .val (.int s0), .val (.int s1), .val (.int s2), .val (.int (1 : Int32)), .val (.int b0), .val (.int b1), .val (.int b2), .val (.int bp), .val (.int pr), .val (.ref b15), .unset, .unset, .unset, .unset, .unset] [(.int (0 : Int32)), (.int x0)])) t → Steps p.tables e below (s₁.setTop (entryFrame m #[(.int p1), (.int p2), (.int p3), (.int p4), (.int p5)] maxLocals)) t := fun t k => k207 t (by
      show Steps p.tables e below (T201.setTop (mkF m 206 #[.val (.int p1), .val (.int p2), .val (.int p3), .val (.int p4), .val (.int p5), .val (.int s0), .val (.int s1), .val (.int s2), .val (.int (1 : Int32)), .val (.int b0), .val (.int b1), .val (.int b2), .val (.int bp), .val (.int pr), .val (.ref b15), .unset, .unset, .unset, .unset, .unset] [(.int (1 : Int32)), (.int (1 : Int32)), (.int x0)])) _
      refine XS.icmpYes X201.here hx rfl (pc0 := 206) (pc' := 218) rfl (hb hby at_206) rfl (flt (by decide)).2.2.2 (by decide) (by decide) ?_
      show Steps p.tables e below (T201.setTop (mkF m 218 #[.val (.int p1), .val (.int p2), .val (.int p3), .val (.int p4), .val (.int p5), .val (.int s0), .val (.int s1), .val (.int s2), .val (.int (1 : Int32)), .val (.int b0), .val (.int b1), .val (.int b2), .val (.int bp), .val (.int pr), .val (.ref b15), .unset, .unset, .unset, .unset, .unset] [(.int x0)])) _
      refine XS.iconst X201.here hx rfl (hb hby at_218) ?_
      exact k)
    have k209 : ∀ t, Steps p.tables e below (T201.setTop (mkF m 223 #[.val (.int p1), .val (.int p2), .val (.int p3), .val (.int p4), .val (.int p5), .val (.int s0), .val (.int s1), .val (.int s2), .val (.int (1 : Int32)), .val (.int b0), .val (.int b1), .val (.int b2), .val (.int bp), .val (.int pr), .val (.ref b15), .unset, .unset, .unset, .unset, .unset] [(.int (2 : Int32)), (.int (1 : Int32)), (.int (x0 + (0 : Int32)))])) t → Steps p.tables e below (s₁.setTop (entryFrame m #[(.int p1), (.int p2), (.int p3), (.int p4), (.int p5)] maxLocals)) t := fun t k => k208 t (by
      show Steps p.tables e below (T201.setTop (mkF m 219 #[.val (.int p1), .val (.int p2), .val (.int p3), .val (.int p4), .val (.int p5), .val (.int s0), .val (.int s1), .val (.int s2), .val (.int (1 : Int32)), .val (.int b0), .val (.int b1), .val (.int b2), .val (.int bp), .val (.int pr), .val (.ref b15), .unset, .unset, .unset, .unset, .unset] [(.int (0 : Int32)), (.int x0)])) _
      refine XS.iadd X201.here hx rfl (hb hby at_219) rfl ?_
      show Steps p.tables e below (T201.setTop (mkF m 220 #[.val (.int p1), .val (.int p2), .val (.int p3), .val (.int p4), .val (.int p5), .val (.int s0), .val (.int s1), .val (.int s2), .val (.int (1 : Int32)), .val (.int b0), .val (.int b1), .val (.int b2), .val (.int bp), .val (.int pr), .val (.ref b15), .unset, .unset, .unset, .unset, .unset] [(.int (x0 + (0 : Int32)))])) _
      refine XS.iload X201.here hx rfl (hb hby at_220) rfl ?_
      show Steps p.tables e below (T201.setTop (mkF m 222 #[.val (.int p1), .val (.int p2), .val (.int p3), .val (.int p4), .val (.int p5), .val (.int s0), .val (.int s1), .val (.int s2), .val (.int (1 : Int32)), .val (.int b0), .val (.int b1), .val (.int b2), .val (.int bp), .val (.int pr), .val (.ref b15), .unset, .unset, .unset, .unset, .unset] [(.int (1 : Int32)), (.int (x0 + (0 : Int32)))])) _
      refine XS.iconst X201.here hx rfl (hb hby at_222) ?_
      exact k)
    have k210 : ∀ t, Steps p.tables e below (T201.setTop (mkF m 236 #[.val (.int p1), .val (.int p2), .val (.int p3), .val (.int p4), .val (.int p5), .val (.int s0), .val (.int s1), .val (.int s2), .val (.int (1 : Int32)), .val (.int b0), .val (.int b1), .val (.int b2), .val (.int bp), .val (.int pr), .val (.ref b15), .unset, .unset, .unset, .unset, .unset] [(.int (0 : Int32)), (.int (x0 + (0 : Int32)))])) t → Steps p.tables e below (s₁.setTop (entryFrame m #[(.int p1), (.int p2), (.int p3), (.int p4), (.int p5)] maxLocals)) t := fun t k => k209 t (by
      show Steps p.tables e below (T201.setTop (mkF m 223 #[.val (.int p1), .val (.int p2), .val (.int p3), .val (.int p4), .val (.int p5), .val (.int s0), .val (.int s1), .val (.int s2), .val (.int (1 : Int32)), .val (.int b0), .val (.int b1), .val (.int b2), .val (.int bp), .val (.int pr), .val (.ref b15), .unset, .unset, .unset, .unset, .unset] [(.int (2 : Int32)), (.int (1 : Int32)), (.int (x0 + (0 : Int32)))])) _
      refine XS.icmpYes X201.here hx rfl (pc0 := 223) (pc' := 235) rfl (hb hby at_223) rfl (flt (by decide)).2.2.2 (by decide) (by decide) ?_
      show Steps p.tables e below (T201.setTop (mkF m 235 #[.val (.int p1), .val (.int p2), .val (.int p3), .val (.int p4), .val (.int p5), .val (.int s0), .val (.int s1), .val (.int s2), .val (.int (1 : Int32)), .val (.int b0), .val (.int b1), .val (.int b2), .val (.int bp), .val (.int pr), .val (.ref b15), .unset, .unset, .unset, .unset, .unset] [(.int (x0 + (0 : Int32)))])) _
      refine XS.iconst X201.here hx rfl (hb hby at_235) ?_
      exact k)
    have k211 : ∀ t, Steps p.tables e below (T201.setTop (mkF m 239 #[.val (.int p1), .val (.int p2), .val (.int p3), .val (.int p4), .val (.int p5), .val (.int s0), .val (.int s1), .val (.int s2), .val (.int (1 : Int32)), .val (.int b0), .val (.int b1), .val (.int b2), .val (.int bp), .val (.int pr), .val (.ref b15), .val (.int ((x0 + (0 : Int32)) + (0 : Int32))), .unset, .unset, .unset, .unset] [])) t → Steps p.tables e below (s₁.setTop (entryFrame m #[(.int p1), (.int p2), (.int p3), (.int p4), (.int p5)] maxLocals)) t := fun t k => k210 t (by
      show Steps p.tables e below (T201.setTop (mkF m 236 #[.val (.int p1), .val (.int p2), .val (.int p3), .val (.int p4), .val (.int p5), .val (.int s0), .val (.int s1), .val (.int s2), .val (.int (1 : Int32)), .val (.int b0), .val (.int b1), .val (.int b2), .val (.int bp), .val (.int pr), .val (.ref b15), .unset, .unset, .unset, .unset, .unset] [(.int (0 : Int32)), (.int (x0 + (0 : Int32)))])) _
      refine XS.iadd X201.here hx rfl (hb hby at_236) rfl ?_
      show Steps p.tables e below (T201.setTop (mkF m 237 #[.val (.int p1), .val (.int p2), .val (.int p3), .val (.int p4), .val (.int p5), .val (.int s0), .val (.int s1), .val (.int s2), .val (.int (1 : Int32)), .val (.int b0), .val (.int b1), .val (.int b2), .val (.int bp), .val (.int pr), .val (.ref b15), .unset, .unset, .unset, .unset, .unset] [(.int ((x0 + (0 : Int32)) + (0 : Int32)))])) _
      refine XS.istore X201.here hx rfl (hb hby at_237) rfl (l' := #[.val (.int p1), .val (.int p2), .val (.int p3), .val (.int p4), .val (.int p5), .val (.int s0), .val (.int s1), .val (.int s2), .val (.int (1 : Int32)), .val (.int b0), .val (.int b1), .val (.int b2), .val (.int bp), .val (.int pr), .val (.ref b15), .val (.int ((x0 + (0 : Int32)) + (0 : Int32))), .unset, .unset, .unset, .unset]) rfl ?_
      exact k)
    obtain ⟨fc, hd_fc⟩ : ∃ z : Int32, z = ((x0 + (0 : Int32)) + (0 : Int32)) := ⟨_, rfl⟩
    have k212 : ∀ t, Steps p.tables e below (T201.setTop (mkF m 239 #[.val (.int p1), .val (.int p2), .val (.int p3), .val (.int p4), .val (.int p5), .val (.int s0), .val (.int s1), .val (.int s2), .val (.int (1 : Int32)), .val (.int b0), .val (.int b1), .val (.int b2), .val (.int bp), .val (.int pr), .val (.ref b15), .val (.int fc), .unset, .unset, .unset, .unset] [])) t → Steps p.tables e below (s₁.setTop (entryFrame m #[(.int p1), (.int p2), (.int p3), (.int p4), (.int p5)] maxLocals)) t := by rw [hd_fc]; exact k211
    rw [hd_x0] at hd_fc
    have FF := own_fin1 (dd := p4) hs0 hy hpr hb0 hb1 hb2 hbp f0 f1 f2 hd_s1 hd_s2 hd_fc hre0 hrm0 hre1 hrm1 hfm1
    obtain ⟨pl0, pl1, pl2, im0, im1, im2⟩ := FF
    obtain ⟨E_o, F_e, F_m, F_r, F_c, F_f, F_t, V_e, V_m⟩ := Sn13
    obtain ⟨cq213, kq213, q213a, q213b, q213c⟩ := isOf hZ rfl E204
    obtain ⟨_, _, ⟨T213, L213, kk213, n213⟩, -, X213, ⟨Lc213, hQ213, l213, y213, z213⟩, st213⟩ := X201.virtualBack hx (y := (⟨"com/example/ariadne/ariadne/algo/SplitSearch", "markedCount", "()I"⟩ : MethodName)) (z := (⟨"com/example/ariadne/ariadne/algo/SplitSearch", "markedCount", "()I"⟩ : MethodName)) hown (mvT hZ (hw _ (List.mem_of_getElem? (i := 53) rfl))) (mvT hZ (hw _ (List.mem_of_getElem? (i := 54) rfl))) (notFace_of_selects (args := #[]) (mvT hZ (hw _ (List.mem_of_getElem? (i := 56) rfl)))) (mvT hZ (hw _ (List.mem_of_getElem? (i := 56) rfl))) (mvT hZ (hw _ (List.mem_of_getElem? (i := 55) rfl))) (by decide) (backOf (W := 0) (rm_count l Z a0 hw [] b15 (0 + 1) T201.heap n0 (Nat.le_trans Z0 K202.1) F_c) hZ (hw _ (List.mem_of_getElem? (i := 57) rfl)) (hw _ (List.mem_of_getElem? (i := 3) rfl)) (by decide) (by decide)) q213a q213c (g := (mkF m 241 #[.val (.int p1), .val (.int p2), .val (.int p3), .val (.int p4), .val (.int p5), .val (.int s0), .val (.int s1), .val (.int s2), .val (.int (1 : Int32)), .val (.int b0), .val (.int b1), .val (.int b2), .val (.int bp), .val (.int pr), .val (.ref b15), .val (.int fc), .unset, .unset, .unset, .unset] [(.ref b15)])) rfl (by rw [hml]; rfl) (Steps.refl _) (argsL := []) (rest := []) (lenOf pd___I rfl) rfl (by show 2 * 0 + _ ≤ _; exact Nat.le_of_eq rfl) (hb hby at_241) (fun _ _ => ⟨rfl, rfl, (by decide : 11 + 0 ≤ _), (by decide : 48 + 0 ≤ _)⟩)
    dsimp only [Pt.U, Pt.locs, Pt.cells, Pt.slots] at X213 l213 y213 z213 st213 hQ213
    subst l213 y213 z213
    obtain ⟨rfl, N213q, hc_⟩ := hQ213
    have N213 := Fr.app N201 N213q
    obtain ⟨cq214, kq214, q214a, q214b, q214c⟩ := isOf hZ hc_ E204
    obtain ⟨_, _, ⟨T214, L214, kk214, n214⟩, -, X214, ⟨Lc214, hQ214, l214, y214, z214⟩, st214⟩ := X213.virtualBack hx (y := (⟨"com/example/ariadne/ariadne/algo/SplitSearch", "marked", "(I)I"⟩ : MethodName)) (z := (⟨"com/example/ariadne/ariadne/algo/SplitSearch", "marked", "(I)I"⟩ : MethodName)) hown (mvT hZ (hw _ (List.mem_of_getElem? (i := 58) rfl))) (mvT hZ (hw _ (List.mem_of_getElem? (i := 59) rfl))) (notFace_of_selects (args := #[]) (mvT hZ (hw _ (List.mem_of_getElem? (i := 61) rfl)))) (mvT hZ (hw _ (List.mem_of_getElem? (i := 61) rfl))) (mvT hZ (hw _ (List.mem_of_getElem? (i := 60) rfl))) (by decide) (backOf (W := 0) (rm_marked l Z a0 hw [] b15 (0 : Int32) ae ke re1 T201.heap n0 (Nat.le_trans Z0 K202.1) F_e V_e (by decide)) hZ (hw _ (List.mem_of_getElem? (i := 62) rfl)) (hw _ (List.mem_of_getElem? (i := 3) rfl)) (by decide) (by decide)) q214a q214c (g := (mkF m 264 #[.val (.int p1), .val (.int p2), .val (.int p3), .val (.int p4), .val (.int p5), .val (.int s0), .val (.int s1), .val (.int s2), .val (.int (1 : Int32)), .val (.int b0), .val (.int b1), .val (.int b2), .val (.int bp), .val (.int pr), .val (.ref b15), .val (.int fc), .val (.int (1 : Int32)), .unset, .unset, .unset] [(.int (0 : Int32)), (.ref b15)])) rfl (by rw [hml]; rfl) (Steps.refl _) (argsL := [(.int (0 : Int32))]) (rest := []) (lenOf pd__I_I rfl) rfl (by show 2 * 0 + _ ≤ _; exact Nat.le_of_eq rfl) (hb hby at_264) (fun _ _ => ⟨rfl, hc_, (by decide : 11 + 0 ≤ _), (by decide : 48 + 0 ≤ _)⟩)
    dsimp only [Pt.U, Pt.locs, Pt.cells, Pt.slots] at X214 l214 y214 z214 st214 hQ214
    subst l214 y214 z214
    obtain ⟨rfl, N214q, hm14⟩ := hQ214
    have N214 := Fr.app N213 N214q
    obtain ⟨_, _, ⟨T215, L215, kk215, n215⟩, -, X215, ⟨Lc215, hQ215, l215, y215, z215⟩, st215⟩ := Jvm.LawKit.callS X214 hx (y := (⟨"com/example/ariadne/ariadne/algo/SplitSearchMarkPinLaw", "placeOk", "(IIIIIIII)Z"⟩ : MethodName)) hown (mvT hZ (hw _ (List.mem_of_getElem? (i := 63) rfl))) (mvT hZ (hw _ (List.mem_of_getElem? (i := 64) rfl))) (mvT hZ (hw _ (List.mem_of_getElem? (i := 65) rfl))) (mvT hZ (hw _ (List.mem_of_getElem? (i := 66) rfl))) (by decide) (backOf (W := 0) (rm_placeOk l Z a0 hw [] (0 : Int32) (re1.getD (0 : Int32).toNatClampNeg 0) (1 : Int32) fc s0 s1 s2 p4 T201.heap n0 (Nat.le_trans Z0 K202.1)) hZ (hw _ (List.mem_of_getElem? (i := 66) rfl)) (hw _ (List.mem_of_getElem? (i := 65) rfl)) (by decide) (by decide)) (g := (mkF m 328 #[.val (.int p1), .val (.int p2), .val (.int p3), .val (.int p4), .val (.int p5), .val (.int s0), .val (.int s1), .val (.int s2), .val (.int (1 : Int32)), .val (.int b0), .val (.int b1), .val (.int b2), .val (.int bp), .val (.int pr), .val (.ref b15), .val (.int fc), .val (.int (1 : Int32)), .val (.int (re1.getD (0 : Int32).toNatClampNeg 0)), .val (.int (-1 : Int32)), .val (.int (-1 : Int32))] [(.int p4), (.int s2), (.int s1), (.int s0), (.int fc), (.int (1 : Int32)), (.int (re1.getD (0 : Int32).toNatClampNeg 0)), (.int (0 : Int32))])) rfl (by rw [hml]; rfl) (argsL := [(.int (0 : Int32)), (.int (re1.getD (0 : Int32).toNatClampNeg 0)), (.int (1 : Int32)), (.int fc), (.int s0), (.int s1), (.int s2), (.int p4)]) (rest := []) (lenOf pd__IIIIIIII_Z rfl) rfl (by show 2 * 0 + _ ≤ _; exact Nat.le_of_eq rfl) (hb hby at_328) (fun _ _ => ⟨rfl, hm14, (by decide : 11 + 0 ≤ _), (by decide : 48 + 0 ≤ _)⟩)
    dsimp only [Pt.U, Pt.locs, Pt.cells, Pt.slots] at X215 l215 y215 z215 st215 hQ215
    subst l215 y215 z215
    obtain ⟨rfl, N215q, hp15⟩ := hQ215
    have N215 := Fr.app N214 N215q
    obtain ⟨_, _, ⟨T216, L216, kk216, n216⟩, -, X216, ⟨Lc216, hQ216, l216, y216, z216⟩, st216⟩ := Jvm.LawKit.callS X215 hx (y := (⟨"com/example/ariadne/ariadne/algo/SplitSearchMarkPinLaw", "placeOk", "(IIIIIIII)Z"⟩ : MethodName)) hown (mvT hZ (hw _ (List.mem_of_getElem? (i := 63) rfl))) (mvT hZ (hw _ (List.mem_of_getElem? (i := 64) rfl))) (mvT hZ (hw _ (List.mem_of_getElem? (i := 65) rfl))) (mvT hZ (hw _ (List.mem_of_getElem? (i := 66) rfl))) (by decide) (backOf (W := 0) (rm_placeOk l Z a0 hw [] (1 : Int32) (-1 : Int32) (1 : Int32) fc s0 s1 s2 p4 T201.heap n0 (Nat.le_trans Z0 K202.1)) hZ (hw _ (List.mem_of_getElem? (i := 66) rfl)) (hw _ (List.mem_of_getElem? (i := 65) rfl)) (by decide) (by decide)) (g := (mkF m 360 #[.val (.int p1), .val (.int p2), .val (.int p3), .val (.int p4), .val (.int p5), .val (.int s0), .val (.int s1), .val (.int s2), .val (.int (1 : Int32)), .val (.int b0), .val (.int b1), .val (.int b2), .val (.int bp), .val (.int pr), .val (.ref b15), .val (.int fc), .val (.int (1 : Int32)), .val (.int (re1.getD (0 : Int32).toNatClampNeg 0)), .val (.int (-1 : Int32)), .val (.int (-1 : Int32))] [(.int p4), (.int s2), (.int s1), (.int s0), (.int fc), (.int (1 : Int32)), (.int (-1 : Int32)), (.int (1 : Int32))])) rfl (by rw [hml]; rfl) (argsL := [(.int (1 : Int32)), (.int (-1 : Int32)), (.int (1 : Int32)), (.int fc), (.int s0), (.int s1), (.int s2), (.int p4)]) (rest := []) (lenOf pd__IIIIIIII_Z rfl) rfl (by show 2 * 0 + _ ≤ _; exact Nat.le_of_eq rfl) (hb hby at_360) (fun _ _ => ⟨rfl, hp15, (by decide : 11 + 0 ≤ _), (by decide : 48 + 0 ≤ _)⟩)
    dsimp only [Pt.U, Pt.locs, Pt.cells, Pt.slots] at X216 l216 y216 z216 st216 hQ216
    subst l216 y216 z216
    obtain ⟨rfl, N216q, hp16⟩ := hQ216
    have N216 := Fr.app N215 N216q
    obtain ⟨_, _, ⟨T217, L217, kk217, n217⟩, -, X217, ⟨Lc217, hQ217, l217, y217, z217⟩, st217⟩ := Jvm.LawKit.callS X216 hx (y := (⟨"com/example/ariadne/ariadne/algo/SplitSearchMarkPinLaw", "placeOk", "(IIIIIIII)Z"⟩ : MethodName)) hown (mvT hZ (hw _ (List.mem_of_getElem? (i := 63) rfl))) (mvT hZ (hw _ (List.mem_of_getElem? (i := 64) rfl))) (mvT hZ (hw _ (List.mem_of_getElem? (i := 65) rfl))) (mvT hZ (hw _ (List.mem_of_getElem? (i := 66) rfl))) (by decide) (backOf (W := 0) (rm_placeOk l Z a0 hw [] (2 : Int32) (-1 : Int32) (1 : Int32) fc s0 s1 s2 p4 T201.heap n0 (Nat.le_trans Z0 K202.1)) hZ (hw _ (List.mem_of_getElem? (i := 66) rfl)) (hw _ (List.mem_of_getElem? (i := 65) rfl)) (by decide) (by decide)) (g := (mkF m 392 #[.val (.int p1), .val (.int p2), .val (.int p3), .val (.int p4), .val (.int p5), .val (.int s0), .val (.int s1), .val (.int s2), .val (.int (1 : Int32)), .val (.int b0), .val (.int b1), .val (.int b2), .val (.int bp), .val (.int pr), .val (.ref b15), .val (.int fc), .val (.int (1 : Int32)), .val (.int (re1.getD (0 : Int32).toNatClampNeg 0)), .val (.int (-1 : Int32)), .val (.int (-1 : Int32))] [(.int p4), (.int s2), (.int s1), (.int s0), (.int fc), (.int (1 : Int32)), (.int (-1 : Int32)), (.int (2 : Int32))])) rfl (by rw [hml]; rfl) (argsL := [(.int (2 : Int32)), (.int (-1 : Int32)), (.int (1 : Int32)), (.int fc), (.int s0), (.int s1), (.int s2), (.int p4)]) (rest := []) (lenOf pd__IIIIIIII_Z rfl) rfl (by show 2 * 0 + _ ≤ _; exact Nat.le_of_eq rfl) (hb hby at_392) (fun _ _ => ⟨rfl, hp16, (by decide : 11 + 0 ≤ _), (by decide : 48 + 0 ≤ _)⟩)
    dsimp only [Pt.U, Pt.locs, Pt.cells, Pt.slots] at X217 l217 y217 z217 st217 hQ217
    subst l217 y217 z217
    obtain ⟨rfl, N217q, hp17⟩ := hQ217
    have N217 := Fr.app N216 N217q
    obtain ⟨cq218, kq218, q218a, q218b, q218c⟩ := isOf hZ hp17 E204
    obtain ⟨_, _, ⟨T218, L218, kk218, n218⟩, -, X218, ⟨Lc218, hQ218, l218, y218, z218⟩, st218⟩ := X217.virtualBack hx (y := (⟨"com/example/ariadne/ariadne/algo/SplitSearch", "isMarked", "(I)Z"⟩ : MethodName)) (z := (⟨"com/example/ariadne/ariadne/algo/SplitSearch", "isMarked", "(I)Z"⟩ : MethodName)) hown (mvT hZ (hw _ (List.mem_of_getElem? (i := 67) rfl))) (mvT hZ (hw _ (List.mem_of_getElem? (i := 68) rfl))) (notFace_of_selects (args := #[]) (mvT hZ (hw _ (List.mem_of_getElem? (i := 70) rfl)))) (mvT hZ (hw _ (List.mem_of_getElem? (i := 70) rfl))) (mvT hZ (hw _ (List.mem_of_getElem? (i := 69) rfl))) (by decide) (backOf (W := 0) (rm_isMarked l Z a0 hw [] b15 (0 : Int32) am km rm1 ((0 + 1) + 1) T201.heap n0 (Nat.le_trans Z0 K202.1) F_m F_r V_m (by decide)) hZ (hw _ (List.mem_of_getElem? (i := 71) rfl)) (hw _ (List.mem_of_getElem? (i := 3) rfl)) (by decide) (by decide)) q218a q218c (g := (mkF m 470 #[.val (.int p1), .val (.int p2), .val (.int p3), .val (.int p4), .val (.int p5), .val (.int s0), .val (.int s1), .val (.int s2), .val (.int (1 : Int32)), .val (.int b0), .val (.int b1), .val (.int b2), .val (.int bp), .val (.int pr), .val (.ref b15), .val (.int fc), .val (.int (1 : Int32)), .val (.int (re1.getD (0 : Int32).toNatClampNeg 0)), .val (.int (-1 : Int32)), .val (.int (-1 : Int32))] [(.int (0 : Int32)), (.ref b15)])) rfl (by rw [hml]; rfl) (Steps.refl _) (argsL := [(.int (0 : Int32))]) (rest := []) (lenOf pd__I_Z rfl) rfl (by show 2 * 0 + _ ≤ _; exact Nat.le_of_eq rfl) (hb hby at_470) (fun _ _ => ⟨rfl, hp17, (by decide : 11 + 0 ≤ _), (by decide : 48 + 0 ≤ _)⟩)
    dsimp only [Pt.U, Pt.locs, Pt.cells, Pt.slots] at X218 l218 y218 z218 st218 hQ218
    subst l218 y218 z218
    obtain ⟨rfl, N218q, hi18⟩ := hQ218
    have N218 := Fr.app N217 N218q
    obtain ⟨_, _, ⟨T219, L219, kk219, n219⟩, -, X219, ⟨Lc219, hQ219, l219, y219, z219⟩, st219⟩ := Jvm.LawKit.callS X218 hx (y := (⟨"com/example/ariadne/ariadne/algo/SplitSearchMarkPinLaw", "expectedMarked", "(IIIII)Z"⟩ : MethodName)) hown (mvT hZ (hw _ (List.mem_of_getElem? (i := 72) rfl))) (mvT hZ (hw _ (List.mem_of_getElem? (i := 73) rfl))) (mvT hZ (hw _ (List.mem_of_getElem? (i := 65) rfl))) (mvT hZ (hw _ (List.mem_of_getElem? (i := 74) rfl))) (by decide) (backOf (W := 1) (rm_expected l Z a0 hw [] (0 : Int32) (1 : Int32) s0 s1 s2 T201.heap n0 (Nat.le_trans Z0 K202.1)) hZ (hw _ (List.mem_of_getElem? (i := 74) rfl)) (hw _ (List.mem_of_getElem? (i := 65) rfl)) (by decide) (by decide)) (g := (mkF m 482 #[.val (.int p1), .val (.int p2), .val (.int p3), .val (.int p4), .val (.int p5), .val (.int s0), .val (.int s1), .val (.int s2), .val (.int (1 : Int32)), .val (.int b0), .val (.int b1), .val (.int b2), .val (.int bp), .val (.int pr), .val (.ref b15), .val (.int fc), .val (.int (1 : Int32)), .val (.int (re1.getD (0 : Int32).toNatClampNeg 0)), .val (.int (-1 : Int32)), .val (.int (-1 : Int32))] [(.int s2), (.int s1), (.int s0), (.int (1 : Int32)), (.int (0 : Int32)), (.int (own_ism (0 : Int32) rm1 ((0 + 1) + 1)))])) rfl (by rw [hml]; rfl) (argsL := [(.int (0 : Int32)), (.int (1 : Int32)), (.int s0), (.int s1), (.int s2)]) (rest := [(.int (own_ism (0 : Int32) rm1 ((0 + 1) + 1)))]) (lenOf pd__IIIII_Z rfl) rfl (by show 2 * 0 + _ ≤ _; exact Nat.le_of_eq rfl) (hb hby at_482) (fun _ _ => ⟨rfl, hi18, (by decide : 11 + 0 ≤ _), (by decide : 48 + 0 ≤ _)⟩)
    dsimp only [Pt.U, Pt.locs, Pt.cells, Pt.slots] at X219 l219 y219 z219 st219 hQ219
    subst l219 y219 z219
    obtain ⟨rfl, N219q, he19⟩ := hQ219
    have N219 := Fr.app N218 N219q
    obtain ⟨cq220, kq220, q220a, q220b, q220c⟩ := isOf hZ he19 E204
    obtain ⟨_, _, ⟨T220, L220, kk220, n220⟩, -, X220, ⟨Lc220, hQ220, l220, y220, z220⟩, st220⟩ := X219.virtualBack hx (y := (⟨"com/example/ariadne/ariadne/algo/SplitSearch", "isMarked", "(I)Z"⟩ : MethodName)) (z := (⟨"com/example/ariadne/ariadne/algo/SplitSearch", "isMarked", "(I)Z"⟩ : MethodName)) hown (mvT hZ (hw _ (List.mem_of_getElem? (i := 67) rfl))) (mvT hZ (hw _ (List.mem_of_getElem? (i := 68) rfl))) (notFace_of_selects (args := #[]) (mvT hZ (hw _ (List.mem_of_getElem? (i := 70) rfl)))) (mvT hZ (hw _ (List.mem_of_getElem? (i := 70) rfl))) (mvT hZ (hw _ (List.mem_of_getElem? (i := 69) rfl))) (by decide) (backOf (W := 0) (rm_isMarked l Z a0 hw [] b15 (1 : Int32) am km rm1 ((0 + 1) + 1) T201.heap n0 (Nat.le_trans Z0 K202.1) F_m F_r V_m (by decide)) hZ (hw _ (List.mem_of_getElem? (i := 71) rfl)) (hw _ (List.mem_of_getElem? (i := 3) rfl)) (by decide) (by decide)) q220a q220c (g := (mkF m 503 #[.val (.int p1), .val (.int p2), .val (.int p3), .val (.int p4), .val (.int p5), .val (.int s0), .val (.int s1), .val (.int s2), .val (.int (1 : Int32)), .val (.int b0), .val (.int b1), .val (.int b2), .val (.int bp), .val (.int pr), .val (.ref b15), .val (.int fc), .val (.int (1 : Int32)), .val (.int (re1.getD (0 : Int32).toNatClampNeg 0)), .val (.int (-1 : Int32)), .val (.int (-1 : Int32))] [(.int (1 : Int32)), (.ref b15)])) rfl (by rw [hml]; rfl) (Steps.refl _) (argsL := [(.int (1 : Int32))]) (rest := []) (lenOf pd__I_Z rfl) rfl (by show 2 * 0 + _ ≤ _; exact Nat.le_of_eq rfl) (hb hby at_503) (fun _ _ => ⟨rfl, he19, (by decide : 11 + 0 ≤ _), (by decide : 48 + 0 ≤ _)⟩)
    dsimp only [Pt.U, Pt.locs, Pt.cells, Pt.slots] at X220 l220 y220 z220 st220 hQ220
    subst l220 y220 z220
    obtain ⟨rfl, N220q, hi20⟩ := hQ220
    have N220 := Fr.app N219 N220q
    obtain ⟨_, _, ⟨T221, L221, kk221, n221⟩, -, X221, ⟨Lc221, hQ221, l221, y221, z221⟩, st221⟩ := Jvm.LawKit.callS X220 hx (y := (⟨"com/example/ariadne/ariadne/algo/SplitSearchMarkPinLaw", "expectedMarked", "(IIIII)Z"⟩ : MethodName)) hown (mvT hZ (hw _ (List.mem_of_getElem? (i := 72) rfl))) (mvT hZ (hw _ (List.mem_of_getElem? (i := 73) rfl))) (mvT hZ (hw _ (List.mem_of_getElem? (i := 65) rfl))) (mvT hZ (hw _ (List.mem_of_getElem? (i := 74) rfl))) (by decide) (backOf (W := 1) (rm_expected l Z a0 hw [] (1 : Int32) (1 : Int32) s0 s1 s2 T201.heap n0 (Nat.le_trans Z0 K202.1)) hZ (hw _ (List.mem_of_getElem? (i := 74) rfl)) (hw _ (List.mem_of_getElem? (i := 65) rfl)) (by decide) (by decide)) (g := (mkF m 515 #[.val (.int p1), .val (.int p2), .val (.int p3), .val (.int p4), .val (.int p5), .val (.int s0), .val (.int s1), .val (.int s2), .val (.int (1 : Int32)), .val (.int b0), .val (.int b1), .val (.int b2), .val (.int bp), .val (.int pr), .val (.ref b15), .val (.int fc), .val (.int (1 : Int32)), .val (.int (re1.getD (0 : Int32).toNatClampNeg 0)), .val (.int (-1 : Int32)), .val (.int (-1 : Int32))] [(.int s2), (.int s1), (.int s0), (.int (1 : Int32)), (.int (1 : Int32)), (.int (own_ism (1 : Int32) rm1 ((0 + 1) + 1)))])) rfl (by rw [hml]; rfl) (argsL := [(.int (1 : Int32)), (.int (1 : Int32)), (.int s0), (.int s1), (.int s2)]) (rest := [(.int (own_ism (1 : Int32) rm1 ((0 + 1) + 1)))]) (lenOf pd__IIIII_Z rfl) rfl (by show 2 * 0 + _ ≤ _; exact Nat.le_of_eq rfl) (hb hby at_515) (fun _ _ => ⟨rfl, hi20, (by decide : 11 + 0 ≤ _), (by decide : 48 + 0 ≤ _)⟩)
    dsimp only [Pt.U, Pt.locs, Pt.cells, Pt.slots] at X221 l221 y221 z221 st221 hQ221
    subst l221 y221 z221
    obtain ⟨rfl, N221q, he21⟩ := hQ221
    have N221 := Fr.app N220 N221q
    obtain ⟨cq222, kq222, q222a, q222b, q222c⟩ := isOf hZ he21 E204
    obtain ⟨_, _, ⟨T222, L222, kk222, n222⟩, -, X222, ⟨Lc222, hQ222, l222, y222, z222⟩, st222⟩ := X221.virtualBack hx (y := (⟨"com/example/ariadne/ariadne/algo/SplitSearch", "isMarked", "(I)Z"⟩ : MethodName)) (z := (⟨"com/example/ariadne/ariadne/algo/SplitSearch", "isMarked", "(I)Z"⟩ : MethodName)) hown (mvT hZ (hw _ (List.mem_of_getElem? (i := 67) rfl))) (mvT hZ (hw _ (List.mem_of_getElem? (i := 68) rfl))) (notFace_of_selects (args := #[]) (mvT hZ (hw _ (List.mem_of_getElem? (i := 70) rfl)))) (mvT hZ (hw _ (List.mem_of_getElem? (i := 70) rfl))) (mvT hZ (hw _ (List.mem_of_getElem? (i := 69) rfl))) (by decide) (backOf (W := 0) (rm_isMarked l Z a0 hw [] b15 (2 : Int32) am km rm1 ((0 + 1) + 1) T201.heap n0 (Nat.le_trans Z0 K202.1) F_m F_r V_m (by decide)) hZ (hw _ (List.mem_of_getElem? (i := 71) rfl)) (hw _ (List.mem_of_getElem? (i := 3) rfl)) (by decide) (by decide)) q222a q222c (g := (mkF m 536 #[.val (.int p1), .val (.int p2), .val (.int p3), .val (.int p4), .val (.int p5), .val (.int s0), .val (.int s1), .val (.int s2), .val (.int (1 : Int32)), .val (.int b0), .val (.int b1), .val (.int b2), .val (.int bp), .val (.int pr), .val (.ref b15), .val (.int fc), .val (.int (1 : Int32)), .val (.int (re1.getD (0 : Int32).toNatClampNeg 0)), .val (.int (-1 : Int32)), .val (.int (-1 : Int32))] [(.int (2 : Int32)), (.ref b15)])) rfl (by rw [hml]; rfl) (Steps.refl _) (argsL := [(.int (2 : Int32))]) (rest := []) (lenOf pd__I_Z rfl) rfl (by show 2 * 0 + _ ≤ _; exact Nat.le_of_eq rfl) (hb hby at_536) (fun _ _ => ⟨rfl, he21, (by decide : 11 + 0 ≤ _), (by decide : 48 + 0 ≤ _)⟩)
    dsimp only [Pt.U, Pt.locs, Pt.cells, Pt.slots] at X222 l222 y222 z222 st222 hQ222
    subst l222 y222 z222
    obtain ⟨rfl, N222q, hi22⟩ := hQ222
    have N222 := Fr.app N221 N222q
    obtain ⟨_, _, ⟨T223, L223, kk223, n223⟩, -, X223, ⟨Lc223, hQ223, l223, y223, z223⟩, st223⟩ := Jvm.LawKit.callS X222 hx (y := (⟨"com/example/ariadne/ariadne/algo/SplitSearchMarkPinLaw", "expectedMarked", "(IIIII)Z"⟩ : MethodName)) hown (mvT hZ (hw _ (List.mem_of_getElem? (i := 72) rfl))) (mvT hZ (hw _ (List.mem_of_getElem? (i := 73) rfl))) (mvT hZ (hw _ (List.mem_of_getElem? (i := 65) rfl))) (mvT hZ (hw _ (List.mem_of_getElem? (i := 74) rfl))) (by decide) (backOf (W := 1) (rm_expected l Z a0 hw [] (2 : Int32) (1 : Int32) s0 s1 s2 T201.heap n0 (Nat.le_trans Z0 K202.1)) hZ (hw _ (List.mem_of_getElem? (i := 74) rfl)) (hw _ (List.mem_of_getElem? (i := 65) rfl)) (by decide) (by decide)) (g := (mkF m 548 #[.val (.int p1), .val (.int p2), .val (.int p3), .val (.int p4), .val (.int p5), .val (.int s0), .val (.int s1), .val (.int s2), .val (.int (1 : Int32)), .val (.int b0), .val (.int b1), .val (.int b2), .val (.int bp), .val (.int pr), .val (.ref b15), .val (.int fc), .val (.int (1 : Int32)), .val (.int (re1.getD (0 : Int32).toNatClampNeg 0)), .val (.int (-1 : Int32)), .val (.int (-1 : Int32))] [(.int s2), (.int s1), (.int s0), (.int (1 : Int32)), (.int (2 : Int32)), (.int (own_ism (2 : Int32) rm1 ((0 + 1) + 1)))])) rfl (by rw [hml]; rfl) (argsL := [(.int (2 : Int32)), (.int (1 : Int32)), (.int s0), (.int s1), (.int s2)]) (rest := [(.int (own_ism (2 : Int32) rm1 ((0 + 1) + 1)))]) (lenOf pd__IIIII_Z rfl) rfl (by show 2 * 0 + _ ≤ _; exact Nat.le_of_eq rfl) (hb hby at_548) (fun _ _ => ⟨rfl, hi22, (by decide : 11 + 0 ≤ _), (by decide : 48 + 0 ≤ _)⟩)
    dsimp only [Pt.U, Pt.locs, Pt.cells, Pt.slots] at X223 l223 y223 z223 st223 hQ223
    subst l223 y223 z223
    obtain ⟨rfl, N223q, he23⟩ := hQ223
    have N223 := Fr.app N222 N223q
    have k225 : ∀ t, Steps p.tables e below (T223.setTop (mkF m 563 #[.val (.int p1), .val (.int p2), .val (.int p3), .val (.int p4), .val (.int p5), .val (.int s0), .val (.int s1), .val (.int s2), .val (.int (1 : Int32)), .val (.int b0), .val (.int b1), .val (.int b2), .val (.int bp), .val (.int pr), .val (.ref b15), .val (.int fc), .val (.int (1 : Int32)), .val (.int (re1.getD (0 : Int32).toNatClampNeg 0)), .val (.int (-1 : Int32)), .val (.int (-1 : Int32))] [(.int (1 : Int32))])) t → Steps p.tables e below (s₁.setTop (entryFrame m #[(.int p1), (.int p2), (.int p3), (.int p4), (.int p5)] maxLocals)) t := fun t k => k212 t (by
      show Steps p.tables e below (T201.setTop (mkF m 239 #[.val (.int p1), .val (.int p2), .val (.int p3), .val (.int p4), .val (.int p5), .val (.int s0), .val (.int s1), .val (.int s2), .val (.int (1 : Int32)), .val (.int b0), .val (.int b1), .val (.int b2), .val (.int bp), .val (.int pr), .val (.ref b15), .val (.int fc), .unset, .unset, .unset, .unset] [])) _
      refine XS.aload X201.here hx rfl (hb hby at_239) rfl rfl ?_
      show Steps p.tables e below (T201.setTop (mkF m 241 #[.val (.int p1), .val (.int p2), .val (.int p3), .val (.int p4), .val (.int p5), .val (.int s0), .val (.int s1), .val (.int s2), .val (.int (1 : Int32)), .val (.int b0), .val (.int b1), .val (.int b2), .val (.int bp), .val (.int pr), .val (.ref b15), .val (.int fc), .unset, .unset, .unset, .unset] [(.ref b15)])) _
      refine st213.trans ?_
      show Steps p.tables e below (T213.setTop (mkF m 244 #[.val (.int p1), .val (.int p2), .val (.int p3), .val (.int p4), .val (.int p5), .val (.int s0), .val (.int s1), .val (.int s2), .val (.int (1 : Int32)), .val (.int b0), .val (.int b1), .val (.int b2), .val (.int bp), .val (.int pr), .val (.ref b15), .val (.int fc), .unset, .unset, .unset, .unset] [(.int (0 + 1))])) _
      refine XS.iload X213.here hx rfl (hb hby at_244) rfl ?_
      show Steps p.tables e below (T213.setTop (mkF m 246 #[.val (.int p1), .val (.int p2), .val (.int p3), .val (.int p4), .val (.int p5), .val (.int s0), .val (.int s1), .val (.int s2), .val (.int (1 : Int32)), .val (.int b0), .val (.int b1), .val (.int b2), .val (.int bp), .val (.int pr), .val (.ref b15), .val (.int fc), .unset, .unset, .unset, .unset] [(.int (1 : Int32)), (.int (0 + 1))])) _
      refine XS.icmpNo X213.here hx rfl (hb hby at_246) rfl (teq (by decide)).2 ?_
      show Steps p.tables e below (T213.setTop (mkF m 249 #[.val (.int p1), .val (.int p2), .val (.int p3), .val (.int p4), .val (.int p5), .val (.int s0), .val (.int s1), .val (.int s2), .val (.int (1 : Int32)), .val (.int b0), .val (.int b1), .val (.int b2), .val (.int bp), .val (.int pr), .val (.ref b15), .val (.int fc), .unset, .unset, .unset, .unset] [])) _
      refine XS.iconst X213.here hx rfl (hb hby at_249) ?_
      show Steps p.tables e below (T213.setTop (mkF m 250 #[.val (.int p1), .val (.int p2), .val (.int p3), .val (.int p4), .val (.int p5), .val (.int s0), .val (.int s1), .val (.int s2), .val (.int (1 : Int32)), .val (.int b0), .val (.int b1), .val (.int b2), .val (.int bp), .val (.int pr), .val (.ref b15), .val (.int fc), .unset, .unset, .unset, .unset] [(.int (1 : Int32))])) _
      refine XS.goto X213.here hx rfl (pc0 := 250) (pc' := 254) rfl (hb hby at_250) (by decide) (by decide) ?_
      show Steps p.tables e below (T213.setTop (mkF m 254 #[.val (.int p1), .val (.int p2), .val (.int p3), .val (.int p4), .val (.int p5), .val (.int s0), .val (.int s1), .val (.int s2), .val (.int (1 : Int32)), .val (.int b0), .val (.int b1), .val (.int b2), .val (.int bp), .val (.int pr), .val (.ref b15), .val (.int fc), .unset, .unset, .unset, .unset] [(.int (1 : Int32))])) _
      refine XS.istore X213.here hx rfl (hb hby at_254) rfl (l' := #[.val (.int p1), .val (.int p2), .val (.int p3), .val (.int p4), .val (.int p5), .val (.int s0), .val (.int s1), .val (.int s2), .val (.int (1 : Int32)), .val (.int b0), .val (.int b1), .val (.int b2), .val (.int bp), .val (.int pr), .val (.ref b15), .val (.int fc), .val (.int (1 : Int32)), .unset, .unset, .unset]) rfl ?_
      show Steps p.tables e below (T213.setTop (mkF m 256 #[.val (.int p1), .val (.int p2), .val (.int p3), .val (.int p4), .val (.int p5), .val (.int s0), .val (.int s1), .val (.int s2), .val (.int (1 : Int32)), .val (.int b0), .val (.int b1), .val (.int b2), .val (.int bp), .val (.int pr), .val (.ref b15), .val (.int fc), .val (.int (1 : Int32)), .unset, .unset, .unset] [])) _
      refine XS.iload X213.here hx rfl (hb hby at_256) rfl ?_
      show Steps p.tables e below (T213.setTop (mkF m 258 #[.val (.int p1), .val (.int p2), .val (.int p3), .val (.int p4), .val (.int p5), .val (.int s0), .val (.int s1), .val (.int s2), .val (.int (1 : Int32)), .val (.int b0), .val (.int b1), .val (.int b2), .val (.int bp), .val (.int pr), .val (.ref b15), .val (.int fc), .val (.int (1 : Int32)), .unset, .unset, .unset] [(.int (1 : Int32))])) _
      refine XS.ifNo X213.here hx rfl (hb hby at_258) rfl ((if0 _ _).trans (tlt (by decide)).2.2.2) ?_
      show Steps p.tables e below (T213.setTop (mkF m 261 #[.val (.int p1), .val (.int p2), .val (.int p3), .val (.int p4), .val (.int p5), .val (.int s0), .val (.int s1), .val (.int s2), .val (.int (1 : Int32)), .val (.int b0), .val (.int b1), .val (.int b2), .val (.int bp), .val (.int pr), .val (.ref b15), .val (.int fc), .val (.int (1 : Int32)), .unset, .unset, .unset] [])) _
      refine XS.aload X213.here hx rfl (hb hby at_261) rfl rfl ?_
      show Steps p.tables e below (T213.setTop (mkF m 263 #[.val (.int p1), .val (.int p2), .val (.int p3), .val (.int p4), .val (.int p5), .val (.int s0), .val (.int s1), .val (.int s2), .val (.int (1 : Int32)), .val (.int b0), .val (.int b1), .val (.int b2), .val (.int bp), .val (.int pr), .val (.ref b15), .val (.int fc), .val (.int (1 : Int32)), .unset, .unset, .unset] [(.ref b15)])) _
      refine XS.iconst X213.here hx rfl (hb hby at_263) ?_
      show Steps p.tables e below (T213.setTop (mkF m 264 #[.val (.int p1), .val (.int p2), .val (.int p3), .val (.int p4), .val (.int p5), .val (.int s0), .val (.int s1), .val (.int s2), .val (.int (1 : Int32)), .val (.int b0), .val (.int b1), .val (.int b2), .val (.int bp), .val (.int pr), .val (.ref b15), .val (.int fc), .val (.int (1 : Int32)), .unset, .unset, .unset] [(.int (0 : Int32)), (.ref b15)])) _
      refine st214.trans ?_
      show Steps p.tables e below (T214.setTop (mkF m 267 #[.val (.int p1), .val (.int p2), .val (.int p3), .val (.int p4), .val (.int p5), .val (.int s0), .val (.int s1), .val (.int s2), .val (.int (1 : Int32)), .val (.int b0), .val (.int b1), .val (.int b2), .val (.int bp), .val (.int pr), .val (.ref b15), .val (.int fc), .val (.int (1 : Int32)), .unset, .unset, .unset] [(.int (re1.getD (0 : Int32).toNatClampNeg 0))])) _
      refine XS.goto X214.here hx rfl (pc0 := 267) (pc' := 271) rfl (hb hby at_267) (by decide) (by decide) ?_
      show Steps p.tables e below (T214.setTop (mkF m 271 #[.val (.int p1), .val (.int p2), .val (.int p3), .val (.int p4), .val (.int p5), .val (.int s0), .val (.int s1), .val (.int s2), .val (.int (1 : Int32)), .val (.int b0), .val (.int b1), .val (.int b2), .val (.int bp), .val (.int pr), .val (.ref b15), .val (.int fc), .val (.int (1 : Int32)), .unset, .unset, .unset] [(.int (re1.getD (0 : Int32).toNatClampNeg 0))])) _
      refine XS.istore X214.here hx rfl (hb hby at_271) rfl (l' := #[.val (.int p1), .val (.int p2), .val (.int p3), .val (.int p4), .val (.int p5), .val (.int s0), .val (.int s1), .val (.int s2), .val (.int (1 : Int32)), .val (.int b0), .val (.int b1), .val (.int b2), .val (.int bp), .val (.int pr), .val (.ref b15), .val (.int fc), .val (.int (1 : Int32)), .val (.int (re1.getD (0 : Int32).toNatClampNeg 0)), .unset, .unset]) rfl ?_
      show Steps p.tables e below (T214.setTop (mkF m 273 #[.val (.int p1), .val (.int p2), .val (.int p3), .val (.int p4), .val (.int p5), .val (.int s0), .val (.int s1), .val (.int s2), .val (.int (1 : Int32)), .val (.int b0), .val (.int b1), .val (.int b2), .val (.int bp), .val (.int pr), .val (.ref b15), .val (.int fc), .val (.int (1 : Int32)), .val (.int (re1.getD (0 : Int32).toNatClampNeg 0)), .unset, .unset] [])) _
      refine XS.iload X214.here hx rfl (hb hby at_273) rfl ?_
      show Steps p.tables e below (T214.setTop (mkF m 275 #[.val (.int p1), .val (.int p2), .val (.int p3), .val (.int p4), .val (.int p5), .val (.int s0), .val (.int s1), .val (.int s2), .val (.int (1 : Int32)), .val (.int b0), .val (.int b1), .val (.int b2), .val (.int bp), .val (.int pr), .val (.ref b15), .val (.int fc), .val (.int (1 : Int32)), .val (.int (re1.getD (0 : Int32).toNatClampNeg 0)), .unset, .unset] [(.int (1 : Int32))])) _
      refine XS.iconst X214.here hx rfl (hb hby at_275) ?_
      show Steps p.tables e below (T214.setTop (mkF m 276 #[.val (.int p1), .val (.int p2), .val (.int p3), .val (.int p4), .val (.int p5), .val (.int s0), .val (.int s1), .val (.int s2), .val (.int (1 : Int32)), .val (.int b0), .val (.int b1), .val (.int b2), .val (.int bp), .val (.int pr), .val (.ref b15), .val (.int fc), .val (.int (1 : Int32)), .val (.int (re1.getD (0 : Int32).toNatClampNeg 0)), .unset, .unset] [(.int (1 : Int32)), (.int (1 : Int32))])) _
      refine XS.icmpYes X214.here hx rfl (pc0 := 276) (pc' := 288) rfl (hb hby at_276) rfl (flt (by decide)).2.2.2 (by decide) (by decide) ?_
      show Steps p.tables e below (T214.setTop (mkF m 288 #[.val (.int p1), .val (.int p2), .val (.int p3), .val (.int p4), .val (.int p5), .val (.int s0), .val (.int s1), .val (.int s2), .val (.int (1 : Int32)), .val (.int b0), .val (.int b1), .val (.int b2), .val (.int bp), .val (.int pr), .val (.ref b15), .val (.int fc), .val (.int (1 : Int32)), .val (.int (re1.getD (0 : Int32).toNatClampNeg 0)), .unset, .unset] [])) _
      refine XS.iconst X214.here hx rfl (hb hby at_288) ?_
      show Steps p.tables e below (T214.setTop (mkF m 289 #[.val (.int p1), .val (.int p2), .val (.int p3), .val (.int p4), .val (.int p5), .val (.int s0), .val (.int s1), .val (.int s2), .val (.int (1 : Int32)), .val (.int b0), .val (.int b1), .val (.int b2), .val (.int bp), .val (.int pr), .val (.ref b15), .val (.int fc), .val (.int (1 : Int32)), .val (.int (re1.getD (0 : Int32).toNatClampNeg 0)), .unset, .unset] [(.int (-1 : Int32))])) _
      refine XS.istore X214.here hx rfl (hb hby at_289) rfl (l' := #[.val (.int p1), .val (.int p2), .val (.int p3), .val (.int p4), .val (.int p5), .val (.int s0), .val (.int s1), .val (.int s2), .val (.int (1 : Int32)), .val (.int b0), .val (.int b1), .val (.int b2), .val (.int bp), .val (.int pr), .val (.ref b15), .val (.int fc), .val (.int (1 : Int32)), .val (.int (re1.getD (0 : Int32).toNatClampNeg 0)), .val (.int (-1 : Int32)), .unset]) rfl ?_
      show Steps p.tables e below (T214.setTop (mkF m 291 #[.val (.int p1), .val (.int p2), .val (.int p3), .val (.int p4), .val (.int p5), .val (.int s0), .val (.int s1), .val (.int s2), .val (.int (1 : Int32)), .val (.int b0), .val (.int b1), .val (.int b2), .val (.int bp), .val (.int pr), .val (.ref b15), .val (.int fc), .val (.int (1 : Int32)), .val (.int (re1.getD (0 : Int32).toNatClampNeg 0)), .val (.int (-1 : Int32)), .unset] [])) _
      refine XS.iload X214.here hx rfl (hb hby at_291) rfl ?_
      show Steps p.tables e below (T214.setTop (mkF m 293 #[.val (.int p1), .val (.int p2), .val (.int p3), .val (.int p4), .val (.int p5), .val (.int s0), .val (.int s1), .val (.int s2), .val (.int (1 : Int32)), .val (.int b0), .val (.int b1), .val (.int b2), .val (.int bp), .val (.int pr), .val (.ref b15), .val (.int fc), .val (.int (1 : Int32)), .val (.int (re1.getD (0 : Int32).toNatClampNeg 0)), .val (.int (-1 : Int32)), .unset] [(.int (1 : Int32))])) _
      refine XS.iconst X214.here hx rfl (hb hby at_293) ?_
      show Steps p.tables e below (T214.setTop (mkF m 294 #[.val (.int p1), .val (.int p2), .val (.int p3), .val (.int p4), .val (.int p5), .val (.int s0), .val (.int s1), .val (.int s2), .val (.int (1 : Int32)), .val (.int b0), .val (.int b1), .val (.int b2), .val (.int bp), .val (.int pr), .val (.ref b15), .val (.int fc), .val (.int (1 : Int32)), .val (.int (re1.getD (0 : Int32).toNatClampNeg 0)), .val (.int (-1 : Int32)), .unset] [(.int (2 : Int32)), (.int (1 : Int32))])) _
      refine XS.icmpYes X214.here hx rfl (pc0 := 294) (pc' := 306) rfl (hb hby at_294) rfl (flt (by decide)).2.2.2 (by decide) (by decide) ?_
      show Steps p.tables e below (T214.setTop (mkF m 306 #[.val (.int p1), .val (.int p2), .val (.int p3), .val (.int p4), .val (.int p5), .val (.int s0), .val (.int s1), .val (.int s2), .val (.int (1 : Int32)), .val (.int b0), .val (.int b1), .val (.int b2), .val (.int bp), .val (.int pr), .val (.ref b15), .val (.int fc), .val (.int (1 : Int32)), .val (.int (re1.getD (0 : Int32).toNatClampNeg 0)), .val (.int (-1 : Int32)), .unset] [])) _
      refine XS.iconst X214.here hx rfl (hb hby at_306) ?_
      show Steps p.tables e below (T214.setTop (mkF m 307 #[.val (.int p1), .val (.int p2), .val (.int p3), .val (.int p4), .val (.int p5), .val (.int s0), .val (.int s1), .val (.int s2), .val (.int (1 : Int32)), .val (.int b0), .val (.int b1), .val (.int b2), .val (.int bp), .val (.int pr), .val (.ref b15), .val (.int fc), .val (.int (1 : Int32)), .val (.int (re1.getD (0 : Int32).toNatClampNeg 0)), .val (.int (-1 : Int32)), .unset] [(.int (-1 : Int32))])) _
      refine XS.istore X214.here hx rfl (hb hby at_307) rfl (l' := #[.val (.int p1), .val (.int p2), .val (.int p3), .val (.int p4), .val (.int p5), .val (.int s0), .val (.int s1), .val (.int s2), .val (.int (1 : Int32)), .val (.int b0), .val (.int b1), .val (.int b2), .val (.int bp), .val (.int pr), .val (.ref b15), .val (.int fc), .val (.int (1 : Int32)), .val (.int (re1.getD (0 : Int32).toNatClampNeg 0)), .val (.int (-1 : Int32)), .val (.int (-1 : Int32))]) rfl ?_
      show Steps p.tables e below (T214.setTop (mkF m 309 #[.val (.int p1), .val (.int p2), .val (.int p3), .val (.int p4), .val (.int p5), .val (.int s0), .val (.int s1), .val (.int s2), .val (.int (1 : Int32)), .val (.int b0), .val (.int b1), .val (.int b2), .val (.int bp), .val (.int pr), .val (.ref b15), .val (.int fc), .val (.int (1 : Int32)), .val (.int (re1.getD (0 : Int32).toNatClampNeg 0)), .val (.int (-1 : Int32)), .val (.int (-1 : Int32))] [])) _
      refine XS.iload X214.here hx rfl (hb hby at_309) rfl ?_
      show Steps p.tables e below (T214.setTop (mkF m 311 #[.val (.int p1), .val (.int p2), .val (.int p3), .val (.int p4), .val (.int p5), .val (.int s0), .val (.int s1), .val (.int s2), .val (.int (1 : Int32)), .val (.int b0), .val (.int b1), .val (.int b2), .val (.int bp), .val (.int pr), .val (.ref b15), .val (.int fc), .val (.int (1 : Int32)), .val (.int (re1.getD (0 : Int32).toNatClampNeg 0)), .val (.int (-1 : Int32)), .val (.int (-1 : Int32))] [(.int (1 : Int32))])) _
      refine XS.ifNo X214.here hx rfl (hb hby at_311) rfl ((if0 _ _).trans (feq (by decide)).1) ?_
      show Steps p.tables e below (T214.setTop (mkF m 314 #[.val (.int p1), .val (.int p2), .val (.int p3), .val (.int p4), .val (.int p5), .val (.int s0), .val (.int s1), .val (.int s2), .val (.int (1 : Int32)), .val (.int b0), .val (.int b1), .val (.int b2), .val (.int bp), .val (.int pr), .val (.ref b15), .val (.int fc), .val (.int (1 : Int32)), .val (.int (re1.getD (0 : Int32).toNatClampNeg 0)), .val (.int (-1 : Int32)), .val (.int (-1 : Int32))] [])) _
      refine XS.iconst X214.here hx rfl (hb hby at_314) ?_
      show Steps p.tables e below (T214.setTop (mkF m 315 #[.val (.int p1), .val (.int p2), .val (.int p3), .val (.int p4), .val (.int p5), .val (.int s0), .val (.int s1), .val (.int s2), .val (.int (1 : Int32)), .val (.int b0), .val (.int b1), .val (.int b2), .val (.int bp), .val (.int pr), .val (.ref b15), .val (.int fc), .val (.int (1 : Int32)), .val (.int (re1.getD (0 : Int32).toNatClampNeg 0)), .val (.int (-1 : Int32)), .val (.int (-1 : Int32))] [(.int (0 : Int32))])) _
      refine XS.iload X214.here hx rfl (hb hby at_315) rfl ?_
      show Steps p.tables e below (T214.setTop (mkF m 317 #[.val (.int p1), .val (.int p2), .val (.int p3), .val (.int p4), .val (.int p5), .val (.int s0), .val (.int s1), .val (.int s2), .val (.int (1 : Int32)), .val (.int b0), .val (.int b1), .val (.int b2), .val (.int bp), .val (.int pr), .val (.ref b15), .val (.int fc), .val (.int (1 : Int32)), .val (.int (re1.getD (0 : Int32).toNatClampNeg 0)), .val (.int (-1 : Int32)), .val (.int (-1 : Int32))] [(.int (re1.getD (0 : Int32).toNatClampNeg 0)), (.int (0 : Int32))])) _
      refine XS.iload X214.here hx rfl (hb hby at_317) rfl ?_
      show Steps p.tables e below (T214.setTop (mkF m 319 #[.val (.int p1), .val (.int p2), .val (.int p3), .val (.int p4), .val (.int p5), .val (.int s0), .val (.int s1), .val (.int s2), .val (.int (1 : Int32)), .val (.int b0), .val (.int b1), .val (.int b2), .val (.int bp), .val (.int pr), .val (.ref b15), .val (.int fc), .val (.int (1 : Int32)), .val (.int (re1.getD (0 : Int32).toNatClampNeg 0)), .val (.int (-1 : Int32)), .val (.int (-1 : Int32))] [(.int (1 : Int32)), (.int (re1.getD (0 : Int32).toNatClampNeg 0)), (.int (0 : Int32))])) _
      refine XS.iload X214.here hx rfl (hb hby at_319) rfl ?_
      show Steps p.tables e below (T214.setTop (mkF m 321 #[.val (.int p1), .val (.int p2), .val (.int p3), .val (.int p4), .val (.int p5), .val (.int s0), .val (.int s1), .val (.int s2), .val (.int (1 : Int32)), .val (.int b0), .val (.int b1), .val (.int b2), .val (.int bp), .val (.int pr), .val (.ref b15), .val (.int fc), .val (.int (1 : Int32)), .val (.int (re1.getD (0 : Int32).toNatClampNeg 0)), .val (.int (-1 : Int32)), .val (.int (-1 : Int32))] [(.int fc), (.int (1 : Int32)), (.int (re1.getD (0 : Int32).toNatClampNeg 0)), (.int (0 : Int32))])) _
      refine XS.iload X214.here hx rfl (hb hby at_321) rfl ?_
      show Steps p.tables e below (T214.setTop (mkF m 323 #[.val (.int p1), .val (.int p2), .val (.int p3), .val (.int p4), .val (.int p5), .val (.int s0), .val (.int s1), .val (.int s2), .val (.int (1 : Int32)), .val (.int b0), .val (.int b1), .val (.int b2), .val (.int bp), .val (.int pr), .val (.ref b15), .val (.int fc), .val (.int (1 : Int32)), .val (.int (re1.getD (0 : Int32).toNatClampNeg 0)), .val (.int (-1 : Int32)), .val (.int (-1 : Int32))] [(.int s0), (.int fc), (.int (1 : Int32)), (.int (re1.getD (0 : Int32).toNatClampNeg 0)), (.int (0 : Int32))])) _
      refine XS.iload X214.here hx rfl (hb hby at_323) rfl ?_
      show Steps p.tables e below (T214.setTop (mkF m 325 #[.val (.int p1), .val (.int p2), .val (.int p3), .val (.int p4), .val (.int p5), .val (.int s0), .val (.int s1), .val (.int s2), .val (.int (1 : Int32)), .val (.int b0), .val (.int b1), .val (.int b2), .val (.int bp), .val (.int pr), .val (.ref b15), .val (.int fc), .val (.int (1 : Int32)), .val (.int (re1.getD (0 : Int32).toNatClampNeg 0)), .val (.int (-1 : Int32)), .val (.int (-1 : Int32))] [(.int s1), (.int s0), (.int fc), (.int (1 : Int32)), (.int (re1.getD (0 : Int32).toNatClampNeg 0)), (.int (0 : Int32))])) _
      refine XS.iload X214.here hx rfl (hb hby at_325) rfl ?_
      show Steps p.tables e below (T214.setTop (mkF m 327 #[.val (.int p1), .val (.int p2), .val (.int p3), .val (.int p4), .val (.int p5), .val (.int s0), .val (.int s1), .val (.int s2), .val (.int (1 : Int32)), .val (.int b0), .val (.int b1), .val (.int b2), .val (.int bp), .val (.int pr), .val (.ref b15), .val (.int fc), .val (.int (1 : Int32)), .val (.int (re1.getD (0 : Int32).toNatClampNeg 0)), .val (.int (-1 : Int32)), .val (.int (-1 : Int32))] [(.int s2), (.int s1), (.int s0), (.int fc), (.int (1 : Int32)), (.int (re1.getD (0 : Int32).toNatClampNeg 0)), (.int (0 : Int32))])) _
      refine XS.iloadN X214.here hx rfl (hb hby at_327) rfl ?_
      show Steps p.tables e below (T214.setTop (mkF m 328 #[.val (.int p1), .val (.int p2), .val (.int p3), .val (.int p4), .val (.int p5), .val (.int s0), .val (.int s1), .val (.int s2), .val (.int (1 : Int32)), .val (.int b0), .val (.int b1), .val (.int b2), .val (.int bp), .val (.int pr), .val (.ref b15), .val (.int fc), .val (.int (1 : Int32)), .val (.int (re1.getD (0 : Int32).toNatClampNeg 0)), .val (.int (-1 : Int32)), .val (.int (-1 : Int32))] [(.int p4), (.int s2), (.int s1), (.int s0), (.int fc), (.int (1 : Int32)), (.int (re1.getD (0 : Int32).toNatClampNeg 0)), (.int (0 : Int32))])) _
      refine st215 _ ?_
      show Steps p.tables e below (T215.setTop (mkF m 331 #[.val (.int p1), .val (.int p2), .val (.int p3), .val (.int p4), .val (.int p5), .val (.int s0), .val (.int s1), .val (.int s2), .val (.int (1 : Int32)), .val (.int b0), .val (.int b1), .val (.int b2), .val (.int bp), .val (.int pr), .val (.ref b15), .val (.int fc), .val (.int (1 : Int32)), .val (.int (re1.getD (0 : Int32).toNatClampNeg 0)), .val (.int (-1 : Int32)), .val (.int (-1 : Int32))] [(.int (own_place (0 : Int32) (re1.getD (0 : Int32).toNatClampNeg 0) (1 : Int32) fc s0 s1 s2 p4))])) _
      refine XS.ifNo X215.here hx rfl (hb hby at_331) rfl ((if0 _ _).trans (feq (by rw [pl0]; decide)).1) ?_
      show Steps p.tables e below (T215.setTop (mkF m 334 #[.val (.int p1), .val (.int p2), .val (.int p3), .val (.int p4), .val (.int p5), .val (.int s0), .val (.int s1), .val (.int s2), .val (.int (1 : Int32)), .val (.int b0), .val (.int b1), .val (.int b2), .val (.int bp), .val (.int pr), .val (.ref b15), .val (.int fc), .val (.int (1 : Int32)), .val (.int (re1.getD (0 : Int32).toNatClampNeg 0)), .val (.int (-1 : Int32)), .val (.int (-1 : Int32))] [])) _
      refine XS.iconst X215.here hx rfl (hb hby at_334) ?_
      show Steps p.tables e below (T215.setTop (mkF m 335 #[.val (.int p1), .val (.int p2), .val (.int p3), .val (.int p4), .val (.int p5), .val (.int s0), .val (.int s1), .val (.int s2), .val (.int (1 : Int32)), .val (.int b0), .val (.int b1), .val (.int b2), .val (.int bp), .val (.int pr), .val (.ref b15), .val (.int fc), .val (.int (1 : Int32)), .val (.int (re1.getD (0 : Int32).toNatClampNeg 0)), .val (.int (-1 : Int32)), .val (.int (-1 : Int32))] [(.int (1 : Int32))])) _
      refine XS.goto X215.here hx rfl (pc0 := 335) (pc' := 339) rfl (hb hby at_335) (by decide) (by decide) ?_
      show Steps p.tables e below (T215.setTop (mkF m 339 #[.val (.int p1), .val (.int p2), .val (.int p3), .val (.int p4), .val (.int p5), .val (.int s0), .val (.int s1), .val (.int s2), .val (.int (1 : Int32)), .val (.int b0), .val (.int b1), .val (.int b2), .val (.int bp), .val (.int pr), .val (.ref b15), .val (.int fc), .val (.int (1 : Int32)), .val (.int (re1.getD (0 : Int32).toNatClampNeg 0)), .val (.int (-1 : Int32)), .val (.int (-1 : Int32))] [(.int (1 : Int32))])) _
      refine XS.istore X215.here hx rfl (hb hby at_339) rfl (l' := #[.val (.int p1), .val (.int p2), .val (.int p3), .val (.int p4), .val (.int p5), .val (.int s0), .val (.int s1), .val (.int s2), .val (.int (1 : Int32)), .val (.int b0), .val (.int b1), .val (.int b2), .val (.int bp), .val (.int pr), .val (.ref b15), .val (.int fc), .val (.int (1 : Int32)), .val (.int (re1.getD (0 : Int32).toNatClampNeg 0)), .val (.int (-1 : Int32)), .val (.int (-1 : Int32))]) rfl ?_
      show Steps p.tables e below (T215.setTop (mkF m 341 #[.val (.int p1), .val (.int p2), .val (.int p3), .val (.int p4), .val (.int p5), .val (.int s0), .val (.int s1), .val (.int s2), .val (.int (1 : Int32)), .val (.int b0), .val (.int b1), .val (.int b2), .val (.int bp), .val (.int pr), .val (.ref b15), .val (.int fc), .val (.int (1 : Int32)), .val (.int (re1.getD (0 : Int32).toNatClampNeg 0)), .val (.int (-1 : Int32)), .val (.int (-1 : Int32))] [])) _
      refine XS.iload X215.here hx rfl (hb hby at_341) rfl ?_
      show Steps p.tables e below (T215.setTop (mkF m 343 #[.val (.int p1), .val (.int p2), .val (.int p3), .val (.int p4), .val (.int p5), .val (.int s0), .val (.int s1), .val (.int s2), .val (.int (1 : Int32)), .val (.int b0), .val (.int b1), .val (.int b2), .val (.int bp), .val (.int pr), .val (.ref b15), .val (.int fc), .val (.int (1 : Int32)), .val (.int (re1.getD (0 : Int32).toNatClampNeg 0)), .val (.int (-1 : Int32)), .val (.int (-1 : Int32))] [(.int (1 : Int32))])) _
      refine XS.ifNo X215.here hx rfl (hb hby at_343) rfl ((if0 _ _).trans (feq (by decide)).1) ?_
      show Steps p.tables e below (T215.setTop (mkF m 346 #[.val (.int p1), .val (.int p2), .val (.int p3), .val (.int p4), .val (.int p5), .val (.int s0), .val (.int s1), .val (.int s2), .val (.int (1 : Int32)), .val (.int b0), .val (.int b1), .val (.int b2), .val (.int bp), .val (.int pr), .val (.ref b15), .val (.int fc), .val (.int (1 : Int32)), .val (.int (re1.getD (0 : Int32).toNatClampNeg 0)), .val (.int (-1 : Int32)), .val (.int (-1 : Int32))] [])) _
      refine XS.iconst X215.here hx rfl (hb hby at_346) ?_
      show Steps p.tables e below (T215.setTop (mkF m 347 #[.val (.int p1), .val (.int p2), .val (.int p3), .val (.int p4), .val (.int p5), .val (.int s0), .val (.int s1), .val (.int s2), .val (.int (1 : Int32)), .val (.int b0), .val (.int b1), .val (.int b2), .val (.int bp), .val (.int pr), .val (.ref b15), .val (.int fc), .val (.int (1 : Int32)), .val (.int (re1.getD (0 : Int32).toNatClampNeg 0)), .val (.int (-1 : Int32)), .val (.int (-1 : Int32))] [(.int (1 : Int32))])) _
      refine XS.iload X215.here hx rfl (hb hby at_347) rfl ?_
      show Steps p.tables e below (T215.setTop (mkF m 349 #[.val (.int p1), .val (.int p2), .val (.int p3), .val (.int p4), .val (.int p5), .val (.int s0), .val (.int s1), .val (.int s2), .val (.int (1 : Int32)), .val (.int b0), .val (.int b1), .val (.int b2), .val (.int bp), .val (.int pr), .val (.ref b15), .val (.int fc), .val (.int (1 : Int32)), .val (.int (re1.getD (0 : Int32).toNatClampNeg 0)), .val (.int (-1 : Int32)), .val (.int (-1 : Int32))] [(.int (-1 : Int32)), (.int (1 : Int32))])) _
      refine XS.iload X215.here hx rfl (hb hby at_349) rfl ?_
      show Steps p.tables e below (T215.setTop (mkF m 351 #[.val (.int p1), .val (.int p2), .val (.int p3), .val (.int p4), .val (.int p5), .val (.int s0), .val (.int s1), .val (.int s2), .val (.int (1 : Int32)), .val (.int b0), .val (.int b1), .val (.int b2), .val (.int bp), .val (.int pr), .val (.ref b15), .val (.int fc), .val (.int (1 : Int32)), .val (.int (re1.getD (0 : Int32).toNatClampNeg 0)), .val (.int (-1 : Int32)), .val (.int (-1 : Int32))] [(.int (1 : Int32)), (.int (-1 : Int32)), (.int (1 : Int32))])) _
      refine XS.iload X215.here hx rfl (hb hby at_351) rfl ?_
      show Steps p.tables e below (T215.setTop (mkF m 353 #[.val (.int p1), .val (.int p2), .val (.int p3), .val (.int p4), .val (.int p5), .val (.int s0), .val (.int s1), .val (.int s2), .val (.int (1 : Int32)), .val (.int b0), .val (.int b1), .val (.int b2), .val (.int bp), .val (.int pr), .val (.ref b15), .val (.int fc), .val (.int (1 : Int32)), .val (.int (re1.getD (0 : Int32).toNatClampNeg 0)), .val (.int (-1 : Int32)), .val (.int (-1 : Int32))] [(.int fc), (.int (1 : Int32)), (.int (-1 : Int32)), (.int (1 : Int32))])) _
      refine XS.iload X215.here hx rfl (hb hby at_353) rfl ?_
      show Steps p.tables e below (T215.setTop (mkF m 355 #[.val (.int p1), .val (.int p2), .val (.int p3), .val (.int p4), .val (.int p5), .val (.int s0), .val (.int s1), .val (.int s2), .val (.int (1 : Int32)), .val (.int b0), .val (.int b1), .val (.int b2), .val (.int bp), .val (.int pr), .val (.ref b15), .val (.int fc), .val (.int (1 : Int32)), .val (.int (re1.getD (0 : Int32).toNatClampNeg 0)), .val (.int (-1 : Int32)), .val (.int (-1 : Int32))] [(.int s0), (.int fc), (.int (1 : Int32)), (.int (-1 : Int32)), (.int (1 : Int32))])) _
      refine XS.iload X215.here hx rfl (hb hby at_355) rfl ?_
      show Steps p.tables e below (T215.setTop (mkF m 357 #[.val (.int p1), .val (.int p2), .val (.int p3), .val (.int p4), .val (.int p5), .val (.int s0), .val (.int s1), .val (.int s2), .val (.int (1 : Int32)), .val (.int b0), .val (.int b1), .val (.int b2), .val (.int bp), .val (.int pr), .val (.ref b15), .val (.int fc), .val (.int (1 : Int32)), .val (.int (re1.getD (0 : Int32).toNatClampNeg 0)), .val (.int (-1 : Int32)), .val (.int (-1 : Int32))] [(.int s1), (.int s0), (.int fc), (.int (1 : Int32)), (.int (-1 : Int32)), (.int (1 : Int32))])) _
      refine XS.iload X215.here hx rfl (hb hby at_357) rfl ?_
      show Steps p.tables e below (T215.setTop (mkF m 359 #[.val (.int p1), .val (.int p2), .val (.int p3), .val (.int p4), .val (.int p5), .val (.int s0), .val (.int s1), .val (.int s2), .val (.int (1 : Int32)), .val (.int b0), .val (.int b1), .val (.int b2), .val (.int bp), .val (.int pr), .val (.ref b15), .val (.int fc), .val (.int (1 : Int32)), .val (.int (re1.getD (0 : Int32).toNatClampNeg 0)), .val (.int (-1 : Int32)), .val (.int (-1 : Int32))] [(.int s2), (.int s1), (.int s0), (.int fc), (.int (1 : Int32)), (.int (-1 : Int32)), (.int (1 : Int32))])) _
      refine XS.iloadN X215.here hx rfl (hb hby at_359) rfl ?_
      show Steps p.tables e below (T215.setTop (mkF m 360 #[.val (.int p1), .val (.int p2), .val (.int p3), .val (.int p4), .val (.int p5), .val (.int s0), .val (.int s1), .val (.int s2), .val (.int (1 : Int32)), .val (.int b0), .val (.int b1), .val (.int b2), .val (.int bp), .val (.int pr), .val (.ref b15), .val (.int fc), .val (.int (1 : Int32)), .val (.int (re1.getD (0 : Int32).toNatClampNeg 0)), .val (.int (-1 : Int32)), .val (.int (-1 : Int32))] [(.int p4), (.int s2), (.int s1), (.int s0), (.int fc), (.int (1 : Int32)), (.int (-1 : Int32)), (.int (1 : Int32))])) _
      refine st216 _ ?_
      show Steps p.tables e below (T216.setTop (mkF m 363 #[.val (.int p1), .val (.int p2), .val (.int p3), .val (.int p4), .val (.int p5), .val (.int s0), .val (.int s1), .val (.int s2), .val (.int (1 : Int32)), .val (.int b0), .val (.int b1), .val (.int b2), .val (.int bp), .val (.int pr), .val (.ref b15), .val (.int fc), .val (.int (1 : Int32)), .val (.int (re1.getD (0 : Int32).toNatClampNeg 0)), .val (.int (-1 : Int32)), .val (.int (-1 : Int32))] [(.int (own_place (1 : Int32) (-1 : Int32) (1 : Int32) fc s0 s1 s2 p4))])) _
      refine XS.ifNo X216.here hx rfl (hb hby at_363) rfl ((if0 _ _).trans (feq (by rw [pl1]; decide)).1) ?_
      show Steps p.tables e below (T216.setTop (mkF m 366 #[.val (.int p1), .val (.int p2), .val (.int p3), .val (.int p4), .val (.int p5), .val (.int s0), .val (.int s1), .val (.int s2), .val (.int (1 : Int32)), .val (.int b0), .val (.int b1), .val (.int b2), .val (.int bp), .val (.int pr), .val (.ref b15), .val (.int fc), .val (.int (1 : Int32)), .val (.int (re1.getD (0 : Int32).toNatClampNeg 0)), .val (.int (-1 : Int32)), .val (.int (-1 : Int32))] [])) _
      refine XS.iconst X216.here hx rfl (hb hby at_366) ?_
      show Steps p.tables e below (T216.setTop (mkF m 367 #[.val (.int p1), .val (.int p2), .val (.int p3), .val (.int p4), .val (.int p5), .val (.int s0), .val (.int s1), .val (.int s2), .val (.int (1 : Int32)), .val (.int b0), .val (.int b1), .val (.int b2), .val (.int bp), .val (.int pr), .val (.ref b15), .val (.int fc), .val (.int (1 : Int32)), .val (.int (re1.getD (0 : Int32).toNatClampNeg 0)), .val (.int (-1 : Int32)), .val (.int (-1 : Int32))] [(.int (1 : Int32))])) _
      refine XS.goto X216.here hx rfl (pc0 := 367) (pc' := 371) rfl (hb hby at_367) (by decide) (by decide) ?_
      show Steps p.tables e below (T216.setTop (mkF m 371 #[.val (.int p1), .val (.int p2), .val (.int p3), .val (.int p4), .val (.int p5), .val (.int s0), .val (.int s1), .val (.int s2), .val (.int (1 : Int32)), .val (.int b0), .val (.int b1), .val (.int b2), .val (.int bp), .val (.int pr), .val (.ref b15), .val (.int fc), .val (.int (1 : Int32)), .val (.int (re1.getD (0 : Int32).toNatClampNeg 0)), .val (.int (-1 : Int32)), .val (.int (-1 : Int32))] [(.int (1 : Int32))])) _
      refine XS.istore X216.here hx rfl (hb hby at_371) rfl (l' := #[.val (.int p1), .val (.int p2), .val (.int p3), .val (.int p4), .val (.int p5), .val (.int s0), .val (.int s1), .val (.int s2), .val (.int (1 : Int32)), .val (.int b0), .val (.int b1), .val (.int b2), .val (.int bp), .val (.int pr), .val (.ref b15), .val (.int fc), .val (.int (1 : Int32)), .val (.int (re1.getD (0 : Int32).toNatClampNeg 0)), .val (.int (-1 : Int32)), .val (.int (-1 : Int32))]) rfl ?_
      show Steps p.tables e below (T216.setTop (mkF m 373 #[.val (.int p1), .val (.int p2), .val (.int p3), .val (.int p4), .val (.int p5), .val (.int s0), .val (.int s1), .val (.int s2), .val (.int (1 : Int32)), .val (.int b0), .val (.int b1), .val (.int b2), .val (.int bp), .val (.int pr), .val (.ref b15), .val (.int fc), .val (.int (1 : Int32)), .val (.int (re1.getD (0 : Int32).toNatClampNeg 0)), .val (.int (-1 : Int32)), .val (.int (-1 : Int32))] [])) _
      refine XS.iload X216.here hx rfl (hb hby at_373) rfl ?_
      show Steps p.tables e below (T216.setTop (mkF m 375 #[.val (.int p1), .val (.int p2), .val (.int p3), .val (.int p4), .val (.int p5), .val (.int s0), .val (.int s1), .val (.int s2), .val (.int (1 : Int32)), .val (.int b0), .val (.int b1), .val (.int b2), .val (.int bp), .val (.int pr), .val (.ref b15), .val (.int fc), .val (.int (1 : Int32)), .val (.int (re1.getD (0 : Int32).toNatClampNeg 0)), .val (.int (-1 : Int32)), .val (.int (-1 : Int32))] [(.int (1 : Int32))])) _
      refine XS.ifNo X216.here hx rfl (hb hby at_375) rfl ((if0 _ _).trans (feq (by decide)).1) ?_
      show Steps p.tables e below (T216.setTop (mkF m 378 #[.val (.int p1), .val (.int p2), .val (.int p3), .val (.int p4), .val (.int p5), .val (.int s0), .val (.int s1), .val (.int s2), .val (.int (1 : Int32)), .val (.int b0), .val (.int b1), .val (.int b2), .val (.int bp), .val (.int pr), .val (.ref b15), .val (.int fc), .val (.int (1 : Int32)), .val (.int (re1.getD (0 : Int32).toNatClampNeg 0)), .val (.int (-1 : Int32)), .val (.int (-1 : Int32))] [])) _
      refine XS.iconst X216.here hx rfl (hb hby at_378) ?_
      show Steps p.tables e below (T216.setTop (mkF m 379 #[.val (.int p1), .val (.int p2), .val (.int p3), .val (.int p4), .val (.int p5), .val (.int s0), .val (.int s1), .val (.int s2), .val (.int (1 : Int32)), .val (.int b0), .val (.int b1), .val (.int b2), .val (.int bp), .val (.int pr), .val (.ref b15), .val (.int fc), .val (.int (1 : Int32)), .val (.int (re1.getD (0 : Int32).toNatClampNeg 0)), .val (.int (-1 : Int32)), .val (.int (-1 : Int32))] [(.int (2 : Int32))])) _
      refine XS.iload X216.here hx rfl (hb hby at_379) rfl ?_
      show Steps p.tables e below (T216.setTop (mkF m 381 #[.val (.int p1), .val (.int p2), .val (.int p3), .val (.int p4), .val (.int p5), .val (.int s0), .val (.int s1), .val (.int s2), .val (.int (1 : Int32)), .val (.int b0), .val (.int b1), .val (.int b2), .val (.int bp), .val (.int pr), .val (.ref b15), .val (.int fc), .val (.int (1 : Int32)), .val (.int (re1.getD (0 : Int32).toNatClampNeg 0)), .val (.int (-1 : Int32)), .val (.int (-1 : Int32))] [(.int (-1 : Int32)), (.int (2 : Int32))])) _
      refine XS.iload X216.here hx rfl (hb hby at_381) rfl ?_
      show Steps p.tables e below (T216.setTop (mkF m 383 #[.val (.int p1), .val (.int p2), .val (.int p3), .val (.int p4), .val (.int p5), .val (.int s0), .val (.int s1), .val (.int s2), .val (.int (1 : Int32)), .val (.int b0), .val (.int b1), .val (.int b2), .val (.int bp), .val (.int pr), .val (.ref b15), .val (.int fc), .val (.int (1 : Int32)), .val (.int (re1.getD (0 : Int32).toNatClampNeg 0)), .val (.int (-1 : Int32)), .val (.int (-1 : Int32))] [(.int (1 : Int32)), (.int (-1 : Int32)), (.int (2 : Int32))])) _
      refine XS.iload X216.here hx rfl (hb hby at_383) rfl ?_
      show Steps p.tables e below (T216.setTop (mkF m 385 #[.val (.int p1), .val (.int p2), .val (.int p3), .val (.int p4), .val (.int p5), .val (.int s0), .val (.int s1), .val (.int s2), .val (.int (1 : Int32)), .val (.int b0), .val (.int b1), .val (.int b2), .val (.int bp), .val (.int pr), .val (.ref b15), .val (.int fc), .val (.int (1 : Int32)), .val (.int (re1.getD (0 : Int32).toNatClampNeg 0)), .val (.int (-1 : Int32)), .val (.int (-1 : Int32))] [(.int fc), (.int (1 : Int32)), (.int (-1 : Int32)), (.int (2 : Int32))])) _
      refine XS.iload X216.here hx rfl (hb hby at_385) rfl ?_
      show Steps p.tables e below (T216.setTop (mkF m 387 #[.val (.int p1), .val (.int p2), .val (.int p3), .val (.int p4), .val (.int p5), .val (.int s0), .val (.int s1), .val (.int s2), .val (.int (1 : Int32)), .val (.int b0), .val (.int b1), .val (.int b2), .val (.int bp), .val (.int pr), .val (.ref b15), .val (.int fc), .val (.int (1 : Int32)), .val (.int (re1.getD (0 : Int32).toNatClampNeg 0)), .val (.int (-1 : Int32)), .val (.int (-1 : Int32))] [(.int s0), (.int fc), (.int (1 : Int32)), (.int (-1 : Int32)), (.int (2 : Int32))])) _
      refine XS.iload X216.here hx rfl (hb hby at_387) rfl ?_
      show Steps p.tables e below (T216.setTop (mkF m 389 #[.val (.int p1), .val (.int p2), .val (.int p3), .val (.int p4), .val (.int p5), .val (.int s0), .val (.int s1), .val (.int s2), .val (.int (1 : Int32)), .val (.int b0), .val (.int b1), .val (.int b2), .val (.int bp), .val (.int pr), .val (.ref b15), .val (.int fc), .val (.int (1 : Int32)), .val (.int (re1.getD (0 : Int32).toNatClampNeg 0)), .val (.int (-1 : Int32)), .val (.int (-1 : Int32))] [(.int s1), (.int s0), (.int fc), (.int (1 : Int32)), (.int (-1 : Int32)), (.int (2 : Int32))])) _
      refine XS.iload X216.here hx rfl (hb hby at_389) rfl ?_
      show Steps p.tables e below (T216.setTop (mkF m 391 #[.val (.int p1), .val (.int p2), .val (.int p3), .val (.int p4), .val (.int p5), .val (.int s0), .val (.int s1), .val (.int s2), .val (.int (1 : Int32)), .val (.int b0), .val (.int b1), .val (.int b2), .val (.int bp), .val (.int pr), .val (.ref b15), .val (.int fc), .val (.int (1 : Int32)), .val (.int (re1.getD (0 : Int32).toNatClampNeg 0)), .val (.int (-1 : Int32)), .val (.int (-1 : Int32))] [(.int s2), (.int s1), (.int s0), (.int fc), (.int (1 : Int32)), (.int (-1 : Int32)), (.int (2 : Int32))])) _
      refine XS.iloadN X216.here hx rfl (hb hby at_391) rfl ?_
      show Steps p.tables e below (T216.setTop (mkF m 392 #[.val (.int p1), .val (.int p2), .val (.int p3), .val (.int p4), .val (.int p5), .val (.int s0), .val (.int s1), .val (.int s2), .val (.int (1 : Int32)), .val (.int b0), .val (.int b1), .val (.int b2), .val (.int bp), .val (.int pr), .val (.ref b15), .val (.int fc), .val (.int (1 : Int32)), .val (.int (re1.getD (0 : Int32).toNatClampNeg 0)), .val (.int (-1 : Int32)), .val (.int (-1 : Int32))] [(.int p4), (.int s2), (.int s1), (.int s0), (.int fc), (.int (1 : Int32)), (.int (-1 : Int32)), (.int (2 : Int32))])) _
      refine st217 _ ?_
      show Steps p.tables e below (T217.setTop (mkF m 395 #[.val (.int p1), .val (.int p2), .val (.int p3), .val (.int p4), .val (.int p5), .val (.int s0), .val (.int s1), .val (.int s2), .val (.int (1 : Int32)), .val (.int b0), .val (.int b1), .val (.int b2), .val (.int bp), .val (.int pr), .val (.ref b15), .val (.int fc), .val (.int (1 : Int32)), .val (.int (re1.getD (0 : Int32).toNatClampNeg 0)), .val (.int (-1 : Int32)), .val (.int (-1 : Int32))] [(.int (own_place (2 : Int32) (-1 : Int32) (1 : Int32) fc s0 s1 s2 p4))])) _
      refine XS.ifNo X217.here hx rfl (hb hby at_395) rfl ((if0 _ _).trans (feq (by rw [pl2]; decide)).1) ?_
      show Steps p.tables e below (T217.setTop (mkF m 398 #[.val (.int p1), .val (.int p2), .val (.int p3), .val (.int p4), .val (.int p5), .val (.int s0), .val (.int s1), .val (.int s2), .val (.int (1 : Int32)), .val (.int b0), .val (.int b1), .val (.int b2), .val (.int bp), .val (.int pr), .val (.ref b15), .val (.int fc), .val (.int (1 : Int32)), .val (.int (re1.getD (0 : Int32).toNatClampNeg 0)), .val (.int (-1 : Int32)), .val (.int (-1 : Int32))] [])) _
      refine XS.iconst X217.here hx rfl (hb hby at_398) ?_
      show Steps p.tables e below (T217.setTop (mkF m 399 #[.val (.int p1), .val (.int p2), .val (.int p3), .val (.int p4), .val (.int p5), .val (.int s0), .val (.int s1), .val (.int s2), .val (.int (1 : Int32)), .val (.int b0), .val (.int b1), .val (.int b2), .val (.int bp), .val (.int pr), .val (.ref b15), .val (.int fc), .val (.int (1 : Int32)), .val (.int (re1.getD (0 : Int32).toNatClampNeg 0)), .val (.int (-1 : Int32)), .val (.int (-1 : Int32))] [(.int (1 : Int32))])) _
      refine XS.goto X217.here hx rfl (pc0 := 399) (pc' := 403) rfl (hb hby at_399) (by decide) (by decide) ?_
      show Steps p.tables e below (T217.setTop (mkF m 403 #[.val (.int p1), .val (.int p2), .val (.int p3), .val (.int p4), .val (.int p5), .val (.int s0), .val (.int s1), .val (.int s2), .val (.int (1 : Int32)), .val (.int b0), .val (.int b1), .val (.int b2), .val (.int bp), .val (.int pr), .val (.ref b15), .val (.int fc), .val (.int (1 : Int32)), .val (.int (re1.getD (0 : Int32).toNatClampNeg 0)), .val (.int (-1 : Int32)), .val (.int (-1 : Int32))] [(.int (1 : Int32))])) _
      refine XS.istore X217.here hx rfl (hb hby at_403) rfl (l' := #[.val (.int p1), .val (.int p2), .val (.int p3), .val (.int p4), .val (.int p5), .val (.int s0), .val (.int s1), .val (.int s2), .val (.int (1 : Int32)), .val (.int b0), .val (.int b1), .val (.int b2), .val (.int bp), .val (.int pr), .val (.ref b15), .val (.int fc), .val (.int (1 : Int32)), .val (.int (re1.getD (0 : Int32).toNatClampNeg 0)), .val (.int (-1 : Int32)), .val (.int (-1 : Int32))]) rfl ?_
      show Steps p.tables e below (T217.setTop (mkF m 405 #[.val (.int p1), .val (.int p2), .val (.int p3), .val (.int p4), .val (.int p5), .val (.int s0), .val (.int s1), .val (.int s2), .val (.int (1 : Int32)), .val (.int b0), .val (.int b1), .val (.int b2), .val (.int bp), .val (.int pr), .val (.ref b15), .val (.int fc), .val (.int (1 : Int32)), .val (.int (re1.getD (0 : Int32).toNatClampNeg 0)), .val (.int (-1 : Int32)), .val (.int (-1 : Int32))] [])) _
      refine XS.iload X217.here hx rfl (hb hby at_405) rfl ?_
      show Steps p.tables e below (T217.setTop (mkF m 407 #[.val (.int p1), .val (.int p2), .val (.int p3), .val (.int p4), .val (.int p5), .val (.int s0), .val (.int s1), .val (.int s2), .val (.int (1 : Int32)), .val (.int b0), .val (.int b1), .val (.int b2), .val (.int bp), .val (.int pr), .val (.ref b15), .val (.int fc), .val (.int (1 : Int32)), .val (.int (re1.getD (0 : Int32).toNatClampNeg 0)), .val (.int (-1 : Int32)), .val (.int (-1 : Int32))] [(.int (1 : Int32))])) _
      refine XS.iconst X217.here hx rfl (hb hby at_407) ?_
      show Steps p.tables e below (T217.setTop (mkF m 408 #[.val (.int p1), .val (.int p2), .val (.int p3), .val (.int p4), .val (.int p5), .val (.int s0), .val (.int s1), .val (.int s2), .val (.int (1 : Int32)), .val (.int b0), .val (.int b1), .val (.int b2), .val (.int bp), .val (.int pr), .val (.ref b15), .val (.int fc), .val (.int (1 : Int32)), .val (.int (re1.getD (0 : Int32).toNatClampNeg 0)), .val (.int (-1 : Int32)), .val (.int (-1 : Int32))] [(.int (1 : Int32)), (.int (1 : Int32))])) _
      refine XS.icmpYes X217.here hx rfl (pc0 := 408) (pc' := 430) rfl (hb hby at_408) rfl (flt (by decide)).2.2.2 (by decide) (by decide) ?_
      show Steps p.tables e below (T217.setTop (mkF m 430 #[.val (.int p1), .val (.int p2), .val (.int p3), .val (.int p4), .val (.int p5), .val (.int s0), .val (.int s1), .val (.int s2), .val (.int (1 : Int32)), .val (.int b0), .val (.int b1), .val (.int b2), .val (.int bp), .val (.int pr), .val (.ref b15), .val (.int fc), .val (.int (1 : Int32)), .val (.int (re1.getD (0 : Int32).toNatClampNeg 0)), .val (.int (-1 : Int32)), .val (.int (-1 : Int32))] [])) _
      refine XS.iload X217.here hx rfl (hb hby at_430) rfl ?_
      show Steps p.tables e below (T217.setTop (mkF m 432 #[.val (.int p1), .val (.int p2), .val (.int p3), .val (.int p4), .val (.int p5), .val (.int s0), .val (.int s1), .val (.int s2), .val (.int (1 : Int32)), .val (.int b0), .val (.int b1), .val (.int b2), .val (.int bp), .val (.int pr), .val (.ref b15), .val (.int fc), .val (.int (1 : Int32)), .val (.int (re1.getD (0 : Int32).toNatClampNeg 0)), .val (.int (-1 : Int32)), .val (.int (-1 : Int32))] [(.int (1 : Int32))])) _
      refine XS.iconst X217.here hx rfl (hb hby at_432) ?_
      show Steps p.tables e below (T217.setTop (mkF m 433 #[.val (.int p1), .val (.int p2), .val (.int p3), .val (.int p4), .val (.int p5), .val (.int s0), .val (.int s1), .val (.int s2), .val (.int (1 : Int32)), .val (.int b0), .val (.int b1), .val (.int b2), .val (.int bp), .val (.int pr), .val (.ref b15), .val (.int fc), .val (.int (1 : Int32)), .val (.int (re1.getD (0 : Int32).toNatClampNeg 0)), .val (.int (-1 : Int32)), .val (.int (-1 : Int32))] [(.int (2 : Int32)), (.int (1 : Int32))])) _
      refine XS.icmpYes X217.here hx rfl (pc0 := 433) (pc' := 462) rfl (hb hby at_433) rfl (flt (by decide)).2.2.2 (by decide) (by decide) ?_
      show Steps p.tables e below (T217.setTop (mkF m 462 #[.val (.int p1), .val (.int p2), .val (.int p3), .val (.int p4), .val (.int p5), .val (.int s0), .val (.int s1), .val (.int s2), .val (.int (1 : Int32)), .val (.int b0), .val (.int b1), .val (.int b2), .val (.int bp), .val (.int pr), .val (.ref b15), .val (.int fc), .val (.int (1 : Int32)), .val (.int (re1.getD (0 : Int32).toNatClampNeg 0)), .val (.int (-1 : Int32)), .val (.int (-1 : Int32))] [])) _
      refine XS.iload X217.here hx rfl (hb hby at_462) rfl ?_
      show Steps p.tables e below (T217.setTop (mkF m 464 #[.val (.int p1), .val (.int p2), .val (.int p3), .val (.int p4), .val (.int p5), .val (.int s0), .val (.int s1), .val (.int s2), .val (.int (1 : Int32)), .val (.int b0), .val (.int b1), .val (.int b2), .val (.int bp), .val (.int pr), .val (.ref b15), .val (.int fc), .val (.int (1 : Int32)), .val (.int (re1.getD (0 : Int32).toNatClampNeg 0)), .val (.int (-1 : Int32)), .val (.int (-1 : Int32))] [(.int (1 : Int32))])) _
      refine XS.ifNo X217.here hx rfl (hb hby at_464) rfl ((if0 _ _).trans (feq (by decide)).1) ?_
      show Steps p.tables e below (T217.setTop (mkF m 467 #[.val (.int p1), .val (.int p2), .val (.int p3), .val (.int p4), .val (.int p5), .val (.int s0), .val (.int s1), .val (.int s2), .val (.int (1 : Int32)), .val (.int b0), .val (.int b1), .val (.int b2), .val (.int bp), .val (.int pr), .val (.ref b15), .val (.int fc), .val (.int (1 : Int32)), .val (.int (re1.getD (0 : Int32).toNatClampNeg 0)), .val (.int (-1 : Int32)), .val (.int (-1 : Int32))] [])) _
      refine XS.aload X217.here hx rfl (hb hby at_467) rfl rfl ?_
      show Steps p.tables e below (T217.setTop (mkF m 469 #[.val (.int p1), .val (.int p2), .val (.int p3), .val (.int p4), .val (.int p5), .val (.int s0), .val (.int s1), .val (.int s2), .val (.int (1 : Int32)), .val (.int b0), .val (.int b1), .val (.int b2), .val (.int bp), .val (.int pr), .val (.ref b15), .val (.int fc), .val (.int (1 : Int32)), .val (.int (re1.getD (0 : Int32).toNatClampNeg 0)), .val (.int (-1 : Int32)), .val (.int (-1 : Int32))] [(.ref b15)])) _
      refine XS.iconst X217.here hx rfl (hb hby at_469) ?_
      show Steps p.tables e below (T217.setTop (mkF m 470 #[.val (.int p1), .val (.int p2), .val (.int p3), .val (.int p4), .val (.int p5), .val (.int s0), .val (.int s1), .val (.int s2), .val (.int (1 : Int32)), .val (.int b0), .val (.int b1), .val (.int b2), .val (.int bp), .val (.int pr), .val (.ref b15), .val (.int fc), .val (.int (1 : Int32)), .val (.int (re1.getD (0 : Int32).toNatClampNeg 0)), .val (.int (-1 : Int32)), .val (.int (-1 : Int32))] [(.int (0 : Int32)), (.ref b15)])) _
      refine st218.trans ?_
      show Steps p.tables e below (T218.setTop (mkF m 473 #[.val (.int p1), .val (.int p2), .val (.int p3), .val (.int p4), .val (.int p5), .val (.int s0), .val (.int s1), .val (.int s2), .val (.int (1 : Int32)), .val (.int b0), .val (.int b1), .val (.int b2), .val (.int bp), .val (.int pr), .val (.ref b15), .val (.int fc), .val (.int (1 : Int32)), .val (.int (re1.getD (0 : Int32).toNatClampNeg 0)), .val (.int (-1 : Int32)), .val (.int (-1 : Int32))] [(.int (own_ism (0 : Int32) rm1 ((0 + 1) + 1)))])) _
      refine XS.iconst X218.here hx rfl (hb hby at_473) ?_
      show Steps p.tables e below (T218.setTop (mkF m 474 #[.val (.int p1), .val (.int p2), .val (.int p3), .val (.int p4), .val (.int p5), .val (.int s0), .val (.int s1), .val (.int s2), .val (.int (1 : Int32)), .val (.int b0), .val (.int b1), .val (.int b2), .val (.int bp), .val (.int pr), .val (.ref b15), .val (.int fc), .val (.int (1 : Int32)), .val (.int (re1.getD (0 : Int32).toNatClampNeg 0)), .val (.int (-1 : Int32)), .val (.int (-1 : Int32))] [(.int (0 : Int32)), (.int (own_ism (0 : Int32) rm1 ((0 + 1) + 1)))])) _
      refine XS.iload X218.here hx rfl (hb hby at_474) rfl ?_
      show Steps p.tables e below (T218.setTop (mkF m 476 #[.val (.int p1), .val (.int p2), .val (.int p3), .val (.int p4), .val (.int p5), .val (.int s0), .val (.int s1), .val (.int s2), .val (.int (1 : Int32)), .val (.int b0), .val (.int b1), .val (.int b2), .val (.int bp), .val (.int pr), .val (.ref b15), .val (.int fc), .val (.int (1 : Int32)), .val (.int (re1.getD (0 : Int32).toNatClampNeg 0)), .val (.int (-1 : Int32)), .val (.int (-1 : Int32))] [(.int (1 : Int32)), (.int (0 : Int32)), (.int (own_ism (0 : Int32) rm1 ((0 + 1) + 1)))])) _
      refine XS.iload X218.here hx rfl (hb hby at_476) rfl ?_
      show Steps p.tables e below (T218.setTop (mkF m 478 #[.val (.int p1), .val (.int p2), .val (.int p3), .val (.int p4), .val (.int p5), .val (.int s0), .val (.int s1), .val (.int s2), .val (.int (1 : Int32)), .val (.int b0), .val (.int b1), .val (.int b2), .val (.int bp), .val (.int pr), .val (.ref b15), .val (.int fc), .val (.int (1 : Int32)), .val (.int (re1.getD (0 : Int32).toNatClampNeg 0)), .val (.int (-1 : Int32)), .val (.int (-1 : Int32))] [(.int s0), (.int (1 : Int32)), (.int (0 : Int32)), (.int (own_ism (0 : Int32) rm1 ((0 + 1) + 1)))])) _
      refine XS.iload X218.here hx rfl (hb hby at_478) rfl ?_
      show Steps p.tables e below (T218.setTop (mkF m 480 #[.val (.int p1), .val (.int p2), .val (.int p3), .val (.int p4), .val (.int p5), .val (.int s0), .val (.int s1), .val (.int s2), .val (.int (1 : Int32)), .val (.int b0), .val (.int b1), .val (.int b2), .val (.int bp), .val (.int pr), .val (.ref b15), .val (.int fc), .val (.int (1 : Int32)), .val (.int (re1.getD (0 : Int32).toNatClampNeg 0)), .val (.int (-1 : Int32)), .val (.int (-1 : Int32))] [(.int s1), (.int s0), (.int (1 : Int32)), (.int (0 : Int32)), (.int (own_ism (0 : Int32) rm1 ((0 + 1) + 1)))])) _
      refine XS.iload X218.here hx rfl (hb hby at_480) rfl ?_
      show Steps p.tables e below (T218.setTop (mkF m 482 #[.val (.int p1), .val (.int p2), .val (.int p3), .val (.int p4), .val (.int p5), .val (.int s0), .val (.int s1), .val (.int s2), .val (.int (1 : Int32)), .val (.int b0), .val (.int b1), .val (.int b2), .val (.int bp), .val (.int pr), .val (.ref b15), .val (.int fc), .val (.int (1 : Int32)), .val (.int (re1.getD (0 : Int32).toNatClampNeg 0)), .val (.int (-1 : Int32)), .val (.int (-1 : Int32))] [(.int s2), (.int s1), (.int s0), (.int (1 : Int32)), (.int (0 : Int32)), (.int (own_ism (0 : Int32) rm1 ((0 + 1) + 1)))])) _
      refine st219 _ ?_
      show Steps p.tables e below (T219.setTop (mkF m 485 #[.val (.int p1), .val (.int p2), .val (.int p3), .val (.int p4), .val (.int p5), .val (.int s0), .val (.int s1), .val (.int s2), .val (.int (1 : Int32)), .val (.int b0), .val (.int b1), .val (.int b2), .val (.int bp), .val (.int pr), .val (.ref b15), .val (.int fc), .val (.int (1 : Int32)), .val (.int (re1.getD (0 : Int32).toNatClampNeg 0)), .val (.int (-1 : Int32)), .val (.int (-1 : Int32))] [(.int (own_exp (0 : Int32) (1 : Int32) s0 s1 s2)), (.int (own_ism (0 : Int32) rm1 ((0 + 1) + 1)))])) _
      refine XS.icmpNo X219.here hx rfl (hb hby at_485) rfl (teq im0).2 ?_
      show Steps p.tables e below (T219.setTop (mkF m 488 #[.val (.int p1), .val (.int p2), .val (.int p3), .val (.int p4), .val (.int p5), .val (.int s0), .val (.int s1), .val (.int s2), .val (.int (1 : Int32)), .val (.int b0), .val (.int b1), .val (.int b2), .val (.int bp), .val (.int pr), .val (.ref b15), .val (.int fc), .val (.int (1 : Int32)), .val (.int (re1.getD (0 : Int32).toNatClampNeg 0)), .val (.int (-1 : Int32)), .val (.int (-1 : Int32))] [])) _
      refine XS.iconst X219.here hx rfl (hb hby at_488) ?_
      show Steps p.tables e below (T219.setTop (mkF m 489 #[.val (.int p1), .val (.int p2), .val (.int p3), .val (.int p4), .val (.int p5), .val (.int s0), .val (.int s1), .val (.int s2), .val (.int (1 : Int32)), .val (.int b0), .val (.int b1), .val (.int b2), .val (.int bp), .val (.int pr), .val (.ref b15), .val (.int fc), .val (.int (1 : Int32)), .val (.int (re1.getD (0 : Int32).toNatClampNeg 0)), .val (.int (-1 : Int32)), .val (.int (-1 : Int32))] [(.int (1 : Int32))])) _
      refine XS.goto X219.here hx rfl (pc0 := 489) (pc' := 493) rfl (hb hby at_489) (by decide) (by decide) ?_
      show Steps p.tables e below (T219.setTop (mkF m 493 #[.val (.int p1), .val (.int p2), .val (.int p3), .val (.int p4), .val (.int p5), .val (.int s0), .val (.int s1), .val (.int s2), .val (.int (1 : Int32)), .val (.int b0), .val (.int b1), .val (.int b2), .val (.int bp), .val (.int pr), .val (.ref b15), .val (.int fc), .val (.int (1 : Int32)), .val (.int (re1.getD (0 : Int32).toNatClampNeg 0)), .val (.int (-1 : Int32)), .val (.int (-1 : Int32))] [(.int (1 : Int32))])) _
      refine XS.istore X219.here hx rfl (hb hby at_493) rfl (l' := #[.val (.int p1), .val (.int p2), .val (.int p3), .val (.int p4), .val (.int p5), .val (.int s0), .val (.int s1), .val (.int s2), .val (.int (1 : Int32)), .val (.int b0), .val (.int b1), .val (.int b2), .val (.int bp), .val (.int pr), .val (.ref b15), .val (.int fc), .val (.int (1 : Int32)), .val (.int (re1.getD (0 : Int32).toNatClampNeg 0)), .val (.int (-1 : Int32)), .val (.int (-1 : Int32))]) rfl ?_
      show Steps p.tables e below (T219.setTop (mkF m 495 #[.val (.int p1), .val (.int p2), .val (.int p3), .val (.int p4), .val (.int p5), .val (.int s0), .val (.int s1), .val (.int s2), .val (.int (1 : Int32)), .val (.int b0), .val (.int b1), .val (.int b2), .val (.int bp), .val (.int pr), .val (.ref b15), .val (.int fc), .val (.int (1 : Int32)), .val (.int (re1.getD (0 : Int32).toNatClampNeg 0)), .val (.int (-1 : Int32)), .val (.int (-1 : Int32))] [])) _
      refine XS.iload X219.here hx rfl (hb hby at_495) rfl ?_
      show Steps p.tables e below (T219.setTop (mkF m 497 #[.val (.int p1), .val (.int p2), .val (.int p3), .val (.int p4), .val (.int p5), .val (.int s0), .val (.int s1), .val (.int s2), .val (.int (1 : Int32)), .val (.int b0), .val (.int b1), .val (.int b2), .val (.int bp), .val (.int pr), .val (.ref b15), .val (.int fc), .val (.int (1 : Int32)), .val (.int (re1.getD (0 : Int32).toNatClampNeg 0)), .val (.int (-1 : Int32)), .val (.int (-1 : Int32))] [(.int (1 : Int32))])) _
      refine XS.ifNo X219.here hx rfl (hb hby at_497) rfl ((if0 _ _).trans (feq (by decide)).1) ?_
      show Steps p.tables e below (T219.setTop (mkF m 500 #[.val (.int p1), .val (.int p2), .val (.int p3), .val (.int p4), .val (.int p5), .val (.int s0), .val (.int s1), .val (.int s2), .val (.int (1 : Int32)), .val (.int b0), .val (.int b1), .val (.int b2), .val (.int bp), .val (.int pr), .val (.ref b15), .val (.int fc), .val (.int (1 : Int32)), .val (.int (re1.getD (0 : Int32).toNatClampNeg 0)), .val (.int (-1 : Int32)), .val (.int (-1 : Int32))] [])) _
      refine XS.aload X219.here hx rfl (hb hby at_500) rfl rfl ?_
      show Steps p.tables e below (T219.setTop (mkF m 502 #[.val (.int p1), .val (.int p2), .val (.int p3), .val (.int p4), .val (.int p5), .val (.int s0), .val (.int s1), .val (.int s2), .val (.int (1 : Int32)), .val (.int b0), .val (.int b1), .val (.int b2), .val (.int bp), .val (.int pr), .val (.ref b15), .val (.int fc), .val (.int (1 : Int32)), .val (.int (re1.getD (0 : Int32).toNatClampNeg 0)), .val (.int (-1 : Int32)), .val (.int (-1 : Int32))] [(.ref b15)])) _
      refine XS.iconst X219.here hx rfl (hb hby at_502) ?_
      show Steps p.tables e below (T219.setTop (mkF m 503 #[.val (.int p1), .val (.int p2), .val (.int p3), .val (.int p4), .val (.int p5), .val (.int s0), .val (.int s1), .val (.int s2), .val (.int (1 : Int32)), .val (.int b0), .val (.int b1), .val (.int b2), .val (.int bp), .val (.int pr), .val (.ref b15), .val (.int fc), .val (.int (1 : Int32)), .val (.int (re1.getD (0 : Int32).toNatClampNeg 0)), .val (.int (-1 : Int32)), .val (.int (-1 : Int32))] [(.int (1 : Int32)), (.ref b15)])) _
      refine st220.trans ?_
      show Steps p.tables e below (T220.setTop (mkF m 506 #[.val (.int p1), .val (.int p2), .val (.int p3), .val (.int p4), .val (.int p5), .val (.int s0), .val (.int s1), .val (.int s2), .val (.int (1 : Int32)), .val (.int b0), .val (.int b1), .val (.int b2), .val (.int bp), .val (.int pr), .val (.ref b15), .val (.int fc), .val (.int (1 : Int32)), .val (.int (re1.getD (0 : Int32).toNatClampNeg 0)), .val (.int (-1 : Int32)), .val (.int (-1 : Int32))] [(.int (own_ism (1 : Int32) rm1 ((0 + 1) + 1)))])) _
      refine XS.iconst X220.here hx rfl (hb hby at_506) ?_
      show Steps p.tables e below (T220.setTop (mkF m 507 #[.val (.int p1), .val (.int p2), .val (.int p3), .val (.int p4), .val (.int p5), .val (.int s0), .val (.int s1), .val (.int s2), .val (.int (1 : Int32)), .val (.int b0), .val (.int b1), .val (.int b2), .val (.int bp), .val (.int pr), .val (.ref b15), .val (.int fc), .val (.int (1 : Int32)), .val (.int (re1.getD (0 : Int32).toNatClampNeg 0)), .val (.int (-1 : Int32)), .val (.int (-1 : Int32))] [(.int (1 : Int32)), (.int (own_ism (1 : Int32) rm1 ((0 + 1) + 1)))])) _
      refine XS.iload X220.here hx rfl (hb hby at_507) rfl ?_
      show Steps p.tables e below (T220.setTop (mkF m 509 #[.val (.int p1), .val (.int p2), .val (.int p3), .val (.int p4), .val (.int p5), .val (.int s0), .val (.int s1), .val (.int s2), .val (.int (1 : Int32)), .val (.int b0), .val (.int b1), .val (.int b2), .val (.int bp), .val (.int pr), .val (.ref b15), .val (.int fc), .val (.int (1 : Int32)), .val (.int (re1.getD (0 : Int32).toNatClampNeg 0)), .val (.int (-1 : Int32)), .val (.int (-1 : Int32))] [(.int (1 : Int32)), (.int (1 : Int32)), (.int (own_ism (1 : Int32) rm1 ((0 + 1) + 1)))])) _
      refine XS.iload X220.here hx rfl (hb hby at_509) rfl ?_
      show Steps p.tables e below (T220.setTop (mkF m 511 #[.val (.int p1), .val (.int p2), .val (.int p3), .val (.int p4), .val (.int p5), .val (.int s0), .val (.int s1), .val (.int s2), .val (.int (1 : Int32)), .val (.int b0), .val (.int b1), .val (.int b2), .val (.int bp), .val (.int pr), .val (.ref b15), .val (.int fc), .val (.int (1 : Int32)), .val (.int (re1.getD (0 : Int32).toNatClampNeg 0)), .val (.int (-1 : Int32)), .val (.int (-1 : Int32))] [(.int s0), (.int (1 : Int32)), (.int (1 : Int32)), (.int (own_ism (1 : Int32) rm1 ((0 + 1) + 1)))])) _
      refine XS.iload X220.here hx rfl (hb hby at_511) rfl ?_
      show Steps p.tables e below (T220.setTop (mkF m 513 #[.val (.int p1), .val (.int p2), .val (.int p3), .val (.int p4), .val (.int p5), .val (.int s0), .val (.int s1), .val (.int s2), .val (.int (1 : Int32)), .val (.int b0), .val (.int b1), .val (.int b2), .val (.int bp), .val (.int pr), .val (.ref b15), .val (.int fc), .val (.int (1 : Int32)), .val (.int (re1.getD (0 : Int32).toNatClampNeg 0)), .val (.int (-1 : Int32)), .val (.int (-1 : Int32))] [(.int s1), (.int s0), (.int (1 : Int32)), (.int (1 : Int32)), (.int (own_ism (1 : Int32) rm1 ((0 + 1) + 1)))])) _
      refine XS.iload X220.here hx rfl (hb hby at_513) rfl ?_
      show Steps p.tables e below (T220.setTop (mkF m 515 #[.val (.int p1), .val (.int p2), .val (.int p3), .val (.int p4), .val (.int p5), .val (.int s0), .val (.int s1), .val (.int s2), .val (.int (1 : Int32)), .val (.int b0), .val (.int b1), .val (.int b2), .val (.int bp), .val (.int pr), .val (.ref b15), .val (.int fc), .val (.int (1 : Int32)), .val (.int (re1.getD (0 : Int32).toNatClampNeg 0)), .val (.int (-1 : Int32)), .val (.int (-1 : Int32))] [(.int s2), (.int s1), (.int s0), (.int (1 : Int32)), (.int (1 : Int32)), (.int (own_ism (1 : Int32) rm1 ((0 + 1) + 1)))])) _
      refine st221 _ ?_
      show Steps p.tables e below (T221.setTop (mkF m 518 #[.val (.int p1), .val (.int p2), .val (.int p3), .val (.int p4), .val (.int p5), .val (.int s0), .val (.int s1), .val (.int s2), .val (.int (1 : Int32)), .val (.int b0), .val (.int b1), .val (.int b2), .val (.int bp), .val (.int pr), .val (.ref b15), .val (.int fc), .val (.int (1 : Int32)), .val (.int (re1.getD (0 : Int32).toNatClampNeg 0)), .val (.int (-1 : Int32)), .val (.int (-1 : Int32))] [(.int (own_exp (1 : Int32) (1 : Int32) s0 s1 s2)), (.int (own_ism (1 : Int32) rm1 ((0 + 1) + 1)))])) _
      refine XS.icmpNo X221.here hx rfl (hb hby at_518) rfl (teq im1).2 ?_
      show Steps p.tables e below (T221.setTop (mkF m 521 #[.val (.int p1), .val (.int p2), .val (.int p3), .val (.int p4), .val (.int p5), .val (.int s0), .val (.int s1), .val (.int s2), .val (.int (1 : Int32)), .val (.int b0), .val (.int b1), .val (.int b2), .val (.int bp), .val (.int pr), .val (.ref b15), .val (.int fc), .val (.int (1 : Int32)), .val (.int (re1.getD (0 : Int32).toNatClampNeg 0)), .val (.int (-1 : Int32)), .val (.int (-1 : Int32))] [])) _
      refine XS.iconst X221.here hx rfl (hb hby at_521) ?_
      show Steps p.tables e below (T221.setTop (mkF m 522 #[.val (.int p1), .val (.int p2), .val (.int p3), .val (.int p4), .val (.int p5), .val (.int s0), .val (.int s1), .val (.int s2), .val (.int (1 : Int32)), .val (.int b0), .val (.int b1), .val (.int b2), .val (.int bp), .val (.int pr), .val (.ref b15), .val (.int fc), .val (.int (1 : Int32)), .val (.int (re1.getD (0 : Int32).toNatClampNeg 0)), .val (.int (-1 : Int32)), .val (.int (-1 : Int32))] [(.int (1 : Int32))])) _
      refine XS.goto X221.here hx rfl (pc0 := 522) (pc' := 526) rfl (hb hby at_522) (by decide) (by decide) ?_
      show Steps p.tables e below (T221.setTop (mkF m 526 #[.val (.int p1), .val (.int p2), .val (.int p3), .val (.int p4), .val (.int p5), .val (.int s0), .val (.int s1), .val (.int s2), .val (.int (1 : Int32)), .val (.int b0), .val (.int b1), .val (.int b2), .val (.int bp), .val (.int pr), .val (.ref b15), .val (.int fc), .val (.int (1 : Int32)), .val (.int (re1.getD (0 : Int32).toNatClampNeg 0)), .val (.int (-1 : Int32)), .val (.int (-1 : Int32))] [(.int (1 : Int32))])) _
      refine XS.istore X221.here hx rfl (hb hby at_526) rfl (l' := #[.val (.int p1), .val (.int p2), .val (.int p3), .val (.int p4), .val (.int p5), .val (.int s0), .val (.int s1), .val (.int s2), .val (.int (1 : Int32)), .val (.int b0), .val (.int b1), .val (.int b2), .val (.int bp), .val (.int pr), .val (.ref b15), .val (.int fc), .val (.int (1 : Int32)), .val (.int (re1.getD (0 : Int32).toNatClampNeg 0)), .val (.int (-1 : Int32)), .val (.int (-1 : Int32))]) rfl ?_
      show Steps p.tables e below (T221.setTop (mkF m 528 #[.val (.int p1), .val (.int p2), .val (.int p3), .val (.int p4), .val (.int p5), .val (.int s0), .val (.int s1), .val (.int s2), .val (.int (1 : Int32)), .val (.int b0), .val (.int b1), .val (.int b2), .val (.int bp), .val (.int pr), .val (.ref b15), .val (.int fc), .val (.int (1 : Int32)), .val (.int (re1.getD (0 : Int32).toNatClampNeg 0)), .val (.int (-1 : Int32)), .val (.int (-1 : Int32))] [])) _
      refine XS.iload X221.here hx rfl (hb hby at_528) rfl ?_
      show Steps p.tables e below (T221.setTop (mkF m 530 #[.val (.int p1), .val (.int p2), .val (.int p3), .val (.int p4), .val (.int p5), .val (.int s0), .val (.int s1), .val (.int s2), .val (.int (1 : Int32)), .val (.int b0), .val (.int b1), .val (.int b2), .val (.int bp), .val (.int pr), .val (.ref b15), .val (.int fc), .val (.int (1 : Int32)), .val (.int (re1.getD (0 : Int32).toNatClampNeg 0)), .val (.int (-1 : Int32)), .val (.int (-1 : Int32))] [(.int (1 : Int32))])) _
      refine XS.ifNo X221.here hx rfl (hb hby at_530) rfl ((if0 _ _).trans (feq (by decide)).1) ?_
      show Steps p.tables e below (T221.setTop (mkF m 533 #[.val (.int p1), .val (.int p2), .val (.int p3), .val (.int p4), .val (.int p5), .val (.int s0), .val (.int s1), .val (.int s2), .val (.int (1 : Int32)), .val (.int b0), .val (.int b1), .val (.int b2), .val (.int bp), .val (.int pr), .val (.ref b15), .val (.int fc), .val (.int (1 : Int32)), .val (.int (re1.getD (0 : Int32).toNatClampNeg 0)), .val (.int (-1 : Int32)), .val (.int (-1 : Int32))] [])) _
      refine XS.aload X221.here hx rfl (hb hby at_533) rfl rfl ?_
      show Steps p.tables e below (T221.setTop (mkF m 535 #[.val (.int p1), .val (.int p2), .val (.int p3), .val (.int p4), .val (.int p5), .val (.int s0), .val (.int s1), .val (.int s2), .val (.int (1 : Int32)), .val (.int b0), .val (.int b1), .val (.int b2), .val (.int bp), .val (.int pr), .val (.ref b15), .val (.int fc), .val (.int (1 : Int32)), .val (.int (re1.getD (0 : Int32).toNatClampNeg 0)), .val (.int (-1 : Int32)), .val (.int (-1 : Int32))] [(.ref b15)])) _
      refine XS.iconst X221.here hx rfl (hb hby at_535) ?_
      show Steps p.tables e below (T221.setTop (mkF m 536 #[.val (.int p1), .val (.int p2), .val (.int p3), .val (.int p4), .val (.int p5), .val (.int s0), .val (.int s1), .val (.int s2), .val (.int (1 : Int32)), .val (.int b0), .val (.int b1), .val (.int b2), .val (.int bp), .val (.int pr), .val (.ref b15), .val (.int fc), .val (.int (1 : Int32)), .val (.int (re1.getD (0 : Int32).toNatClampNeg 0)), .val (.int (-1 : Int32)), .val (.int (-1 : Int32))] [(.int (2 : Int32)), (.ref b15)])) _
      refine st222.trans ?_
      show Steps p.tables e below (T222.setTop (mkF m 539 #[.val (.int p1), .val (.int p2), .val (.int p3), .val (.int p4), .val (.int p5), .val (.int s0), .val (.int s1), .val (.int s2), .val (.int (1 : Int32)), .val (.int b0), .val (.int b1), .val (.int b2), .val (.int bp), .val (.int pr), .val (.ref b15), .val (.int fc), .val (.int (1 : Int32)), .val (.int (re1.getD (0 : Int32).toNatClampNeg 0)), .val (.int (-1 : Int32)), .val (.int (-1 : Int32))] [(.int (own_ism (2 : Int32) rm1 ((0 + 1) + 1)))])) _
      refine XS.iconst X222.here hx rfl (hb hby at_539) ?_
      show Steps p.tables e below (T222.setTop (mkF m 540 #[.val (.int p1), .val (.int p2), .val (.int p3), .val (.int p4), .val (.int p5), .val (.int s0), .val (.int s1), .val (.int s2), .val (.int (1 : Int32)), .val (.int b0), .val (.int b1), .val (.int b2), .val (.int bp), .val (.int pr), .val (.ref b15), .val (.int fc), .val (.int (1 : Int32)), .val (.int (re1.getD (0 : Int32).toNatClampNeg 0)), .val (.int (-1 : Int32)), .val (.int (-1 : Int32))] [(.int (2 : Int32)), (.int (own_ism (2 : Int32) rm1 ((0 + 1) + 1)))])) _
      refine XS.iload X222.here hx rfl (hb hby at_540) rfl ?_
      show Steps p.tables e below (T222.setTop (mkF m 542 #[.val (.int p1), .val (.int p2), .val (.int p3), .val (.int p4), .val (.int p5), .val (.int s0), .val (.int s1), .val (.int s2), .val (.int (1 : Int32)), .val (.int b0), .val (.int b1), .val (.int b2), .val (.int bp), .val (.int pr), .val (.ref b15), .val (.int fc), .val (.int (1 : Int32)), .val (.int (re1.getD (0 : Int32).toNatClampNeg 0)), .val (.int (-1 : Int32)), .val (.int (-1 : Int32))] [(.int (1 : Int32)), (.int (2 : Int32)), (.int (own_ism (2 : Int32) rm1 ((0 + 1) + 1)))])) _
      refine XS.iload X222.here hx rfl (hb hby at_542) rfl ?_
      show Steps p.tables e below (T222.setTop (mkF m 544 #[.val (.int p1), .val (.int p2), .val (.int p3), .val (.int p4), .val (.int p5), .val (.int s0), .val (.int s1), .val (.int s2), .val (.int (1 : Int32)), .val (.int b0), .val (.int b1), .val (.int b2), .val (.int bp), .val (.int pr), .val (.ref b15), .val (.int fc), .val (.int (1 : Int32)), .val (.int (re1.getD (0 : Int32).toNatClampNeg 0)), .val (.int (-1 : Int32)), .val (.int (-1 : Int32))] [(.int s0), (.int (1 : Int32)), (.int (2 : Int32)), (.int (own_ism (2 : Int32) rm1 ((0 + 1) + 1)))])) _
      refine XS.iload X222.here hx rfl (hb hby at_544) rfl ?_
      show Steps p.tables e below (T222.setTop (mkF m 546 #[.val (.int p1), .val (.int p2), .val (.int p3), .val (.int p4), .val (.int p5), .val (.int s0), .val (.int s1), .val (.int s2), .val (.int (1 : Int32)), .val (.int b0), .val (.int b1), .val (.int b2), .val (.int bp), .val (.int pr), .val (.ref b15), .val (.int fc), .val (.int (1 : Int32)), .val (.int (re1.getD (0 : Int32).toNatClampNeg 0)), .val (.int (-1 : Int32)), .val (.int (-1 : Int32))] [(.int s1), (.int s0), (.int (1 : Int32)), (.int (2 : Int32)), (.int (own_ism (2 : Int32) rm1 ((0 + 1) + 1)))])) _
      refine XS.iload X222.here hx rfl (hb hby at_546) rfl ?_
      show Steps p.tables e below (T222.setTop (mkF m 548 #[.val (.int p1), .val (.int p2), .val (.int p3), .val (.int p4), .val (.int p5), .val (.int s0), .val (.int s1), .val (.int s2), .val (.int (1 : Int32)), .val (.int b0), .val (.int b1), .val (.int b2), .val (.int bp), .val (.int pr), .val (.ref b15), .val (.int fc), .val (.int (1 : Int32)), .val (.int (re1.getD (0 : Int32).toNatClampNeg 0)), .val (.int (-1 : Int32)), .val (.int (-1 : Int32))] [(.int s2), (.int s1), (.int s0), (.int (1 : Int32)), (.int (2 : Int32)), (.int (own_ism (2 : Int32) rm1 ((0 + 1) + 1)))])) _
      refine st223 _ ?_
      show Steps p.tables e below (T223.setTop (mkF m 551 #[.val (.int p1), .val (.int p2), .val (.int p3), .val (.int p4), .val (.int p5), .val (.int s0), .val (.int s1), .val (.int s2), .val (.int (1 : Int32)), .val (.int b0), .val (.int b1), .val (.int b2), .val (.int bp), .val (.int pr), .val (.ref b15), .val (.int fc), .val (.int (1 : Int32)), .val (.int (re1.getD (0 : Int32).toNatClampNeg 0)), .val (.int (-1 : Int32)), .val (.int (-1 : Int32))] [(.int (own_exp (2 : Int32) (1 : Int32) s0 s1 s2)), (.int (own_ism (2 : Int32) rm1 ((0 + 1) + 1)))])) _
      refine XS.icmpNo X223.here hx rfl (hb hby at_551) rfl (teq im2).2 ?_
      show Steps p.tables e below (T223.setTop (mkF m 554 #[.val (.int p1), .val (.int p2), .val (.int p3), .val (.int p4), .val (.int p5), .val (.int s0), .val (.int s1), .val (.int s2), .val (.int (1 : Int32)), .val (.int b0), .val (.int b1), .val (.int b2), .val (.int bp), .val (.int pr), .val (.ref b15), .val (.int fc), .val (.int (1 : Int32)), .val (.int (re1.getD (0 : Int32).toNatClampNeg 0)), .val (.int (-1 : Int32)), .val (.int (-1 : Int32))] [])) _
      refine XS.iconst X223.here hx rfl (hb hby at_554) ?_
      show Steps p.tables e below (T223.setTop (mkF m 555 #[.val (.int p1), .val (.int p2), .val (.int p3), .val (.int p4), .val (.int p5), .val (.int s0), .val (.int s1), .val (.int s2), .val (.int (1 : Int32)), .val (.int b0), .val (.int b1), .val (.int b2), .val (.int bp), .val (.int pr), .val (.ref b15), .val (.int fc), .val (.int (1 : Int32)), .val (.int (re1.getD (0 : Int32).toNatClampNeg 0)), .val (.int (-1 : Int32)), .val (.int (-1 : Int32))] [(.int (1 : Int32))])) _
      refine XS.goto X223.here hx rfl (pc0 := 555) (pc' := 559) rfl (hb hby at_555) (by decide) (by decide) ?_
      show Steps p.tables e below (T223.setTop (mkF m 559 #[.val (.int p1), .val (.int p2), .val (.int p3), .val (.int p4), .val (.int p5), .val (.int s0), .val (.int s1), .val (.int s2), .val (.int (1 : Int32)), .val (.int b0), .val (.int b1), .val (.int b2), .val (.int bp), .val (.int pr), .val (.ref b15), .val (.int fc), .val (.int (1 : Int32)), .val (.int (re1.getD (0 : Int32).toNatClampNeg 0)), .val (.int (-1 : Int32)), .val (.int (-1 : Int32))] [(.int (1 : Int32))])) _
      refine XS.istore X223.here hx rfl (hb hby at_559) rfl (l' := #[.val (.int p1), .val (.int p2), .val (.int p3), .val (.int p4), .val (.int p5), .val (.int s0), .val (.int s1), .val (.int s2), .val (.int (1 : Int32)), .val (.int b0), .val (.int b1), .val (.int b2), .val (.int bp), .val (.int pr), .val (.ref b15), .val (.int fc), .val (.int (1 : Int32)), .val (.int (re1.getD (0 : Int32).toNatClampNeg 0)), .val (.int (-1 : Int32)), .val (.int (-1 : Int32))]) rfl ?_
      show Steps p.tables e below (T223.setTop (mkF m 561 #[.val (.int p1), .val (.int p2), .val (.int p3), .val (.int p4), .val (.int p5), .val (.int s0), .val (.int s1), .val (.int s2), .val (.int (1 : Int32)), .val (.int b0), .val (.int b1), .val (.int b2), .val (.int bp), .val (.int pr), .val (.ref b15), .val (.int fc), .val (.int (1 : Int32)), .val (.int (re1.getD (0 : Int32).toNatClampNeg 0)), .val (.int (-1 : Int32)), .val (.int (-1 : Int32))] [])) _
      refine XS.iload X223.here hx rfl (hb hby at_561) rfl ?_
      exact k)
    obtain ⟨fs, hr, hrun, hended, hW, hsame⟩ := X223.leave (v := some (.int (1 : Int32))) (fun h => by rw [Bd.returns] at h; cases h) (BodyLoose.notSynchronized Bd)
    refine ⟨_, _, k225 _ ?_, hrun, hended, _, _, rfl, ?_, ⟨_, rfl⟩, hW, hsame.mono (by decide) (by decide)⟩
    · show Steps p.tables e below (T223.setTop (mkF m 563 #[.val (.int p1), .val (.int p2), .val (.int p3), .val (.int p4), .val (.int p5), .val (.int s0), .val (.int s1), .val (.int s2), .val (.int (1 : Int32)), .val (.int b0), .val (.int b1), .val (.int b2), .val (.int bp), .val (.int pr), .val (.ref b15), .val (.int fc), .val (.int (1 : Int32)), .val (.int (re1.getD (0 : Int32).toNatClampNeg 0)), .val (.int (-1 : Int32)), .val (.int (-1 : Int32))] [(.int (1 : Int32))])) _
      exact retN X223 hx (t := .boolean) Bd.returns (by simp) (hb hby at_563) hr
    ·
      show Qlaw _ p1 p2 p3 p4 p5 h0 n0 _ T223.heap _
      rw [he23]
      exact ⟨rfl, N223⟩
  ·
    obtain ⟨cq226, kq226, q226a, q226b, q226c⟩ := isOf hZ rfl E179
    obtain ⟨_, _, ⟨T226, L226, kk226, n226⟩, -, X226, ⟨Lc226, hQ226, l226, y226, z226⟩, st226⟩ := X176.virtualBack hx (y := (⟨"com/example/ariadne/ariadne/algo/SplitSearch", "mark", "(IZ)V"⟩ : MethodName)) (z := (⟨"com/example/ariadne/ariadne/algo/SplitSearch", "mark", "(IZ)V"⟩ : MethodName)) hown (mvT hZ (hw _ (List.mem_of_getElem? (i := 48) rfl))) (mvT hZ (hw _ (List.mem_of_getElem? (i := 49) rfl))) (notFace_of_selects (args := #[]) (mvT hZ (hw _ (List.mem_of_getElem? (i := 51) rfl)))) (mvT hZ (hw _ (List.mem_of_getElem? (i := 51) rfl))) (mvT hZ (hw _ (List.mem_of_getElem? (i := 50) rfl))) (by decide) (backOf (W := 0) (rm_mark l Z a0 hw [] b15 s0 b0 ((0 + 1) + 1) 0 0 re0 rm0 ae am ke km T176.heap n0 (Nat.le_trans Z0 K177.1) Sn3 nea neb nem g_b15 g_ae g_am (own_lt3 hs0) (by decide) (by decide) lre0 lrm0) hZ (hw _ (List.mem_of_getElem? (i := 52) rfl)) (hw _ (List.mem_of_getElem? (i := 3) rfl)) (by decide) (by decide)) q226a q226c (g := (mkF m 155 #[.val (.int p1), .val (.int p2), .val (.int p3), .val (.int p4), .val (.int p5), .val (.int s0), .val (.int s1), .val (.int s2), .val (.int (2 : Int32)), .val (.int b0), .val (.int b1), .val (.int b2), .val (.int bp), .val (.int pr), .val (.ref b15), .unset, .unset, .unset, .unset, .unset] [(.int b0), (.int s0), (.ref b15)])) rfl (by rw [hml]; rfl) (Steps.refl _) (argsL := [(.int s0), (.int b0)]) (rest := []) (lenOf pd__IZ_V rfl) rfl (by show 2 * 0 + _ ≤ _; exact Nat.le_of_eq rfl) (hb hby at_155) (fun _ _ => ⟨rfl, rfl, (by decide : 11 + 0 ≤ _), (by decide : 48 + 0 ≤ _)⟩)
    dsimp only [Pt.U, Pt.locs, Pt.cells, Pt.slots] at X226 l226 y226 z226 st226 hQ226
    subst l226 y226 z226
    obtain ⟨rfl, N226q, Kn24, Sn24⟩ := hQ226
    have N226 := Fr.app N176 N226q
    have K227 : Keep h0 T226.heap [] := K177.trans Kn24 (allS (Or.inr sz_b15) (allS (Or.inr sz_ae) (allS (Or.inr sz_am) all0)))
    have E228 : Exa Z T226.heap b15 "com/example/ariadne/ariadne/algo/SplitSearch" := E179.keep Kn24
    obtain ⟨re1, hre1⟩ : ∃ z : List Int32, z = own_re s0 b0 0 0 re0 := ⟨_, rfl⟩
    rw [← hre1] at Sn24
    obtain ⟨rm1, hrm1⟩ : ∃ z : List Int32, z = (rm0 : List Int32).set s0.toNatClampNeg ((0 + 1) + 1) := ⟨_, rfl⟩
    rw [← hrm1] at Sn24
    have lre1 : re1.length = 3 := by rw [hre1, own_re_len]; exact lre0
    have lrm1 : rm1.length = 3 := by rw [hrm1, List.length_set]; exact lrm0
    obtain ⟨fm1, hfm1⟩ : ∃ z : Int32, z = own_fm b0 0 := ⟨_, rfl⟩
    rw [← hfm1] at Sn24
    have E229 : Exa Z T226.heap b15 "com/example/ariadne/ariadne/algo/SplitSearch" := Sn24.1
    obtain ⟨cq230, kq230, q230a, q230b, q230c⟩ := isOf hZ rfl E229
    obtain ⟨_, _, ⟨T230, L230, kk230, n230⟩, -, X230, ⟨Lc230, hQ230, l230, y230, z230⟩, st230⟩ := X226.virtualBack hx (y := (⟨"com/example/ariadne/ariadne/algo/SplitSearch", "mark", "(IZ)V"⟩ : MethodName)) (z := (⟨"com/example/ariadne/ariadne/algo/SplitSearch", "mark", "(IZ)V"⟩ : MethodName)) hown (mvT hZ (hw _ (List.mem_of_getElem? (i := 48) rfl))) (mvT hZ (hw _ (List.mem_of_getElem? (i := 49) rfl))) (notFace_of_selects (args := #[]) (mvT hZ (hw _ (List.mem_of_getElem? (i := 51) rfl)))) (mvT hZ (hw _ (List.mem_of_getElem? (i := 51) rfl))) (mvT hZ (hw _ (List.mem_of_getElem? (i := 50) rfl))) (by decide) (backOf (W := 0) (rm_mark l Z a0 hw [] b15 s1 b1 ((0 + 1) + 1) (0 + 1) fm1 re1 rm1 ae am ke km T226.heap n0 (Nat.le_trans Z0 K227.1) Sn24 nea neb nem g_b15 g_ae g_am (own_lt3 hs1) (by decide) (own_lt3 (by rw [hfm1]; exact own_fm1 hb0)) lre1 lrm1) hZ (hw _ (List.mem_of_getElem? (i := 52) rfl)) (hw _ (List.mem_of_getElem? (i := 3) rfl)) (by decide) (by decide)) q230a q230c (g := (mkF m 170 #[.val (.int p1), .val (.int p2), .val (.int p3), .val (.int p4), .val (.int p5), .val (.int s0), .val (.int s1), .val (.int s2), .val (.int (2 : Int32)), .val (.int b0), .val (.int b1), .val (.int b2), .val (.int bp), .val (.int pr), .val (.ref b15), .unset, .unset, .unset, .unset, .unset] [(.int b1), (.int s1), (.ref b15)])) rfl (by rw [hml]; rfl) (Steps.refl _) (argsL := [(.int s1), (.int b1)]) (rest := []) (lenOf pd__IZ_V rfl) rfl (by show 2 * 0 + _ ≤ _; exact Nat.le_of_eq rfl) (hb hby at_170) (fun _ _ => ⟨rfl, rfl, (by decide : 11 + 0 ≤ _), (by decide : 48 + 0 ≤ _)⟩)
    dsimp only [Pt.U, Pt.locs, Pt.cells, Pt.slots] at X230 l230 y230 z230 st230 hQ230
    subst l230 y230 z230
    obtain ⟨rfl, N230q, Kn25, Sn25⟩ := hQ230
    have N230 := Fr.app N226 N230q
    have K231 : Keep h0 T230.heap [] := K227.trans Kn25 (allS (Or.inr sz_b15) (allS (Or.inr sz_ae) (allS (Or.inr sz_am) all0)))
    have E232 : Exa Z T230.heap b15 "com/example/ariadne/ariadne/algo/SplitSearch" := E229.keep Kn25
    obtain ⟨re2, hre2⟩ : ∃ z : List Int32, z = own_re s1 b1 (0 + 1) fm1 re1 := ⟨_, rfl⟩
    rw [← hre2] at Sn25
    obtain ⟨rm2, hrm2⟩ : ∃ z : List Int32, z = (rm1 : List Int32).set s1.toNatClampNeg ((0 + 1) + 1) := ⟨_, rfl⟩
    rw [← hrm2] at Sn25
    have lre2 : re2.length = 3 := by rw [hre2, own_re_len]; exact lre1
    have lrm2 : rm2.length = 3 := by rw [hrm2, List.length_set]; exact lrm1
    obtain ⟨fm2, hfm2⟩ : ∃ z : Int32, z = own_fm b1 fm1 := ⟨_, rfl⟩
    rw [← hfm2] at Sn25
    have E233 : Exa Z T230.heap b15 "com/example/ariadne/ariadne/algo/SplitSearch" := Sn25.1
    have k234 : ∀ t, Steps p.tables e below (T230.setTop (mkF m 190 #[.val (.int p1), .val (.int p2), .val (.int p3), .val (.int p4), .val (.int p5), .val (.int s0), .val (.int s1), .val (.int s2), .val (.int (2 : Int32)), .val (.int b0), .val (.int b1), .val (.int b2), .val (.int bp), .val (.int pr), .val (.ref b15), .unset, .unset, .unset, .unset, .unset] [(.int (2 : Int32))])) t → Steps p.tables e below (s₁.setTop (entryFrame m #[(.int p1), (.int p2), (.int p3), (.int p4), (.int p5)] maxLocals)) t := fun t k => k180 t (by
      show Steps p.tables e below (T176.setTop (mkF m 146 #[.val (.int p1), .val (.int p2), .val (.int p3), .val (.int p4), .val (.int p5), .val (.int s0), .val (.int s1), .val (.int s2), .val (.int (2 : Int32)), .val (.int b0), .val (.int b1), .val (.int b2), .val (.int bp), .val (.int pr), .val (.ref b15), .unset, .unset, .unset, .unset, .unset] [(.int (2 : Int32))])) _
      refine XS.ifNo X176.here hx rfl (hb hby at_146) rfl ((if0 _ _).trans (tlt (by decide)).2.2.2) ?_
      show Steps p.tables e below (T176.setTop (mkF m 149 #[.val (.int p1), .val (.int p2), .val (.int p3), .val (.int p4), .val (.int p5), .val (.int s0), .val (.int s1), .val (.int s2), .val (.int (2 : Int32)), .val (.int b0), .val (.int b1), .val (.int b2), .val (.int bp), .val (.int pr), .val (.ref b15), .unset, .unset, .unset, .unset, .unset] [])) _
      refine XS.aload X176.here hx rfl (hb hby at_149) rfl rfl ?_
      show Steps p.tables e below (T176.setTop (mkF m 151 #[.val (.int p1), .val (.int p2), .val (.int p3), .val (.int p4), .val (.int p5), .val (.int s0), .val (.int s1), .val (.int s2), .val (.int (2 : Int32)), .val (.int b0), .val (.int b1), .val (.int b2), .val (.int bp), .val (.int pr), .val (.ref b15), .unset, .unset, .unset, .unset, .unset] [(.ref b15)])) _
      refine XS.iload X176.here hx rfl (hb hby at_151) rfl ?_
      show Steps p.tables e below (T176.setTop (mkF m 153 #[.val (.int p1), .val (.int p2), .val (.int p3), .val (.int p4), .val (.int p5), .val (.int s0), .val (.int s1), .val (.int s2), .val (.int (2 : Int32)), .val (.int b0), .val (.int b1), .val (.int b2), .val (.int bp), .val (.int pr), .val (.ref b15), .unset, .unset, .unset, .unset, .unset] [(.int s0), (.ref b15)])) _
      refine XS.iload X176.here hx rfl (hb hby at_153) rfl ?_
      show Steps p.tables e below (T176.setTop (mkF m 155 #[.val (.int p1), .val (.int p2), .val (.int p3), .val (.int p4), .val (.int p5), .val (.int s0), .val (.int s1), .val (.int s2), .val (.int (2 : Int32)), .val (.int b0), .val (.int b1), .val (.int b2), .val (.int bp), .val (.int pr), .val (.ref b15), .unset, .unset, .unset, .unset, .unset] [(.int b0), (.int s0), (.ref b15)])) _
      refine st226.trans ?_
      show Steps p.tables e below (T226.setTop (mkF m 158 #[.val (.int p1), .val (.int p2), .val (.int p3), .val (.int p4), .val (.int p5), .val (.int s0), .val (.int s1), .val (.int s2), .val (.int (2 : Int32)), .val (.int b0), .val (.int b1), .val (.int b2), .val (.int bp), .val (.int pr), .val (.ref b15), .unset, .unset, .unset, .unset, .unset] [])) _
      refine XS.iload X226.here hx rfl (hb hby at_158) rfl ?_
      show Steps p.tables e below (T226.setTop (mkF m 160 #[.val (.int p1), .val (.int p2), .val (.int p3), .val (.int p4), .val (.int p5), .val (.int s0), .val (.int s1), .val (.int s2), .val (.int (2 : Int32)), .val (.int b0), .val (.int b1), .val (.int b2), .val (.int bp), .val (.int pr), .val (.ref b15), .unset, .unset, .unset, .unset, .unset] [(.int (2 : Int32))])) _
      refine XS.iconst X226.here hx rfl (hb hby at_160) ?_
      show Steps p.tables e below (T226.setTop (mkF m 161 #[.val (.int p1), .val (.int p2), .val (.int p3), .val (.int p4), .val (.int p5), .val (.int s0), .val (.int s1), .val (.int s2), .val (.int (2 : Int32)), .val (.int b0), .val (.int b1), .val (.int b2), .val (.int bp), .val (.int pr), .val (.ref b15), .unset, .unset, .unset, .unset, .unset] [(.int (1 : Int32)), (.int (2 : Int32))])) _
      refine XS.icmpNo X226.here hx rfl (hb hby at_161) rfl (tlt (by decide)).2.2.2 ?_
      show Steps p.tables e below (T226.setTop (mkF m 164 #[.val (.int p1), .val (.int p2), .val (.int p3), .val (.int p4), .val (.int p5), .val (.int s0), .val (.int s1), .val (.int s2), .val (.int (2 : Int32)), .val (.int b0), .val (.int b1), .val (.int b2), .val (.int bp), .val (.int pr), .val (.ref b15), .unset, .unset, .unset, .unset, .unset] [])) _
      refine XS.aload X226.here hx rfl (hb hby at_164) rfl rfl ?_
      show Steps p.tables e below (T226.setTop (mkF m 166 #[.val (.int p1), .val (.int p2), .val (.int p3), .val (.int p4), .val (.int p5), .val (.int s0), .val (.int s1), .val (.int s2), .val (.int (2 : Int32)), .val (.int b0), .val (.int b1), .val (.int b2), .val (.int bp), .val (.int pr), .val (.ref b15), .unset, .unset, .unset, .unset, .unset] [(.ref b15)])) _
      refine XS.iload X226.here hx rfl (hb hby at_166) rfl ?_
      show Steps p.tables e below (T226.setTop (mkF m 168 #[.val (.int p1), .val (.int p2), .val (.int p3), .val (.int p4), .val (.int p5), .val (.int s0), .val (.int s1), .val (.int s2), .val (.int (2 : Int32)), .val (.int b0), .val (.int b1), .val (.int b2), .val (.int bp), .val (.int pr), .val (.ref b15), .unset, .unset, .unset, .unset, .unset] [(.int s1), (.ref b15)])) _
      refine XS.iload X226.here hx rfl (hb hby at_168) rfl ?_
      show Steps p.tables e below (T226.setTop (mkF m 170 #[.val (.int p1), .val (.int p2), .val (.int p3), .val (.int p4), .val (.int p5), .val (.int s0), .val (.int s1), .val (.int s2), .val (.int (2 : Int32)), .val (.int b0), .val (.int b1), .val (.int b2), .val (.int bp), .val (.int pr), .val (.ref b15), .unset, .unset, .unset, .unset, .unset] [(.int b1), (.int s1), (.ref b15)])) _
      refine st230.trans ?_
      show Steps p.tables e below (T230.setTop (mkF m 173 #[.val (.int p1), .val (.int p2), .val (.int p3), .val (.int p4), .val (.int p5), .val (.int s0), .val (.int s1), .val (.int s2), .val (.int (2 : Int32)), .val (.int b0), .val (.int b1), .val (.int b2), .val (.int bp), .val (.int pr), .val (.ref b15), .unset, .unset, .unset, .unset, .unset] [])) _
      refine XS.iload X230.here hx rfl (hb hby at_173) rfl ?_
      show Steps p.tables e below (T230.setTop (mkF m 175 #[.val (.int p1), .val (.int p2), .val (.int p3), .val (.int p4), .val (.int p5), .val (.int s0), .val (.int s1), .val (.int s2), .val (.int (2 : Int32)), .val (.int b0), .val (.int b1), .val (.int b2), .val (.int bp), .val (.int pr), .val (.ref b15), .unset, .unset, .unset, .unset, .unset] [(.int (2 : Int32))])) _
      refine XS.iconst X230.here hx rfl (hb hby at_175) ?_
      show Steps p.tables e below (T230.setTop (mkF m 176 #[.val (.int p1), .val (.int p2), .val (.int p3), .val (.int p4), .val (.int p5), .val (.int s0), .val (.int s1), .val (.int s2), .val (.int (2 : Int32)), .val (.int b0), .val (.int b1), .val (.int b2), .val (.int bp), .val (.int pr), .val (.ref b15), .unset, .unset, .unset, .unset, .unset] [(.int (2 : Int32)), (.int (2 : Int32))])) _
      refine XS.icmpYes X230.here hx rfl (pc0 := 176) (pc' := 188) rfl (hb hby at_176) rfl (flt (by decide)).2.2.2 (by decide) (by decide) ?_
      show Steps p.tables e below (T230.setTop (mkF m 188 #[.val (.int p1), .val (.int p2), .val (.int p3), .val (.int p4), .val (.int p5), .val (.int s0), .val (.int s1), .val (.int s2), .val (.int (2 : Int32)), .val (.int b0), .val (.int b1), .val (.int b2), .val (.int bp), .val (.int pr), .val (.ref b15), .unset, .unset, .unset, .unset, .unset] [])) _
      refine XS.iload X230.here hx rfl (hb hby at_188) rfl ?_
      exact k)
    obtain ⟨x0, hd_x0⟩ : ∃ z : Int32, z = (if b0 = (0 : Int32) then (0 : Int32) else (1 : Int32)) := ⟨_, rfl⟩
    have k235 : ∀ t, Steps p.tables e below (T230.setTop (mkF m 203 #[.val (.int p1), .val (.int p2), .val (.int p3), .val (.int p4), .val (.int p5), .val (.int s0), .val (.int s1), .val (.int s2), .val (.int (2 : Int32)), .val (.int b0), .val (.int b1), .val (.int b2), .val (.int bp), .val (.int pr), .val (.ref b15), .unset, .unset, .unset, .unset, .unset] [(.int x0)])) t → Steps p.tables e below (s₁.setTop (entryFrame m #[(.int p1), (.int p2), (.int p3), (.int p4), (.int p5)] maxLocals)) t := fun t k => k234 t (by
      show Steps p.tables e below (T230.setTop (mkF m 190 #[.val (.int p1), .val (.int p2), .val (.int p3), .val (.int p4), .val (.int p5), .val (.int s0), .val (.int s1), .val (.int s2), .val (.int (2 : Int32)), .val (.int b0), .val (.int b1), .val (.int b2), .val (.int bp), .val (.int pr), .val (.ref b15), .unset, .unset, .unset, .unset, .unset] [(.int (2 : Int32))])) _
      refine XS.ifNo X230.here hx rfl (hb hby at_190) rfl ((if0 _ _).trans (tlt (by decide)).2.2.2) ?_
      show Steps p.tables e below (T230.setTop (mkF m 193 #[.val (.int p1), .val (.int p2), .val (.int p3), .val (.int p4), .val (.int p5), .val (.int s0), .val (.int s1), .val (.int s2), .val (.int (2 : Int32)), .val (.int b0), .val (.int b1), .val (.int b2), .val (.int bp), .val (.int pr), .val (.ref b15), .unset, .unset, .unset, .unset, .unset] [])) _
      refine XS.iload X230.here hx rfl (hb hby at_193) rfl ?_
      by_cases c195 : b0 = (0 : Int32)
      ·
        show Steps p.tables e below (T230.setTop (mkF m 195 #[.val (.int p1), .val (.int p2), .val (.int p3), .val (.int p4), .val (.int p5), .val (.int s0), .val (.int s1), .val (.int s2), .val (.int (2 : Int32)), .val (.int b0), .val (.int b1), .val (.int b2), .val (.int bp), .val (.int pr), .val (.ref b15), .unset, .unset, .unset, .unset, .unset] [(.int b0)])) _
        refine XS.ifYes X230.here hx rfl (pc0 := 195) (pc' := 202) rfl (hb hby at_195) rfl ((if0 _ _).trans (teq c195).1) (by decide) (by decide) ?_
        show Steps p.tables e below (T230.setTop (mkF m 202 #[.val (.int p1), .val (.int p2), .val (.int p3), .val (.int p4), .val (.int p5), .val (.int s0), .val (.int s1), .val (.int s2), .val (.int (2 : Int32)), .val (.int b0), .val (.int b1), .val (.int b2), .val (.int bp), .val (.int pr), .val (.ref b15), .unset, .unset, .unset, .unset, .unset] [])) _
        refine XS.iconst X230.here hx rfl (hb hby at_202) ?_
        simp only [if_pos c195] at hd_x0
        rw [hd_x0] at k
        exact k
      ·
        show Steps p.tables e below (T230.setTop (mkF m 195 #[.val (.int p1), .val (.int p2), .val (.int p3), .val (.int p4), .val (.int p5), .val (.int s0), .val (.int s1), .val (.int s2), .val (.int (2 : Int32)), .val (.int b0), .val (.int b1), .val (.int b2), .val (.int bp), .val (.int pr), .val (.ref b15), .unset, .unset, .unset, .unset, .unset] [(.int b0)])) _
        refine XS.ifNo X230.here hx rfl (hb hby at_195) rfl ((if0 _ _).trans (feq c195).1) ?_
        show Steps p.tables e below (T230.setTop (mkF m 198 #[.val (.int p1), .val (.int p2), .val (.int p3), .val (.int p4), .val (.int p5), .val (.int s0), .val (.int s1), .val (.int s2), .val (.int (2 : Int32)), .val (.int b0), .val (.int b1), .val (.int b2), .val (.int bp), .val (.int pr), .val (.ref b15), .unset, .unset, .unset, .unset, .unset] [])) _
        refine XS.iconst X230.here hx rfl (hb hby at_198) ?_
        show Steps p.tables e below (T230.setTop (mkF m 199 #[.val (.int p1), .val (.int p2), .val (.int p3), .val (.int p4), .val (.int p5), .val (.int s0), .val (.int s1), .val (.int s2), .val (.int (2 : Int32)), .val (.int b0), .val (.int b1), .val (.int b2), .val (.int bp), .val (.int pr), .val (.ref b15), .unset, .unset, .unset, .unset, .unset] [(.int (1 : Int32))])) _
        refine XS.goto X230.here hx rfl (pc0 := 199) (pc' := 203) rfl (hb hby at_199) (by decide) (by decide) ?_
        simp only [if_neg c195] at hd_x0
        rw [hd_x0] at k
        exact k)
    have k236 : ∀ t, Steps p.tables e below (T230.setTop (mkF m 206 #[.val (.int p1), .val (.int p2), .val (.int p3), .val (.int p4), .val (.int p5), .val (.int s0), .val (.int s1), .val (.int s2), .val (.int (2 : Int32)), .val (.int b0), .val (.int b1), .val (.int b2), .val (.int bp), .val (.int pr), .val (.ref b15), .unset, .unset, .unset, .unset, .unset] [(.int (1 : Int32)), (.int (2 : Int32)), (.int x0)])) t → Steps p.tables e below (s₁.setTop (entryFrame m #[(.int p1), (.int p2), (.int p3), (.int p4), (.int p5)] maxLocals)) t := fun t k => k235 t (by
      show Steps p.tables e below (T230.setTop (mkF m 203 #[.val (.int p1), .val (.int p2), .val (.int p3), .val (.int p4), .val (.int p5), .val (.int s0), .val (.int s1), .val (.int s2), .val (.int (2 : Int32)), .val (.int b0), .val (.int b1), .val (.int b2), .val (.int bp), .val (.int pr), .val (.ref b15), .unset, .unset, .unset, .unset, .unset] [(.int x0)])) _
      refine XS.iload X230.here hx rfl (hb hby at_203) rfl ?_
      show Steps p.tables e below (T230.setTop (mkF m 205 #[.val (.int p1), .val (.int p2), .val (.int p3), .val (.int p4), .val (.int p5), .val (.int s0), .val (.int s1), .val (.int s2), .val (.int (2 : Int32)), .val (.int b0), .val (.int b1), .val (.int b2), .val (.int bp), .val (.int pr), .val (.ref b15), .unset, .unset, .unset, .unset, .unset] [(.int (2 : Int32)), (.int x0)])) _
      refine XS.iconst X230.here hx rfl (hb hby at_205) ?_
      exact k)
    obtain ⟨x1, hd_x1⟩ : ∃ z : Int32, z = (if b1 = (0 : Int32) then (0 : Int32) else (1 : Int32)) := ⟨_, rfl⟩
    have k237 : ∀ t, Steps p.tables e below (T230.setTop (mkF m 219 #[.val (.int p1), .val (.int p2), .val (.int p3), .val (.int p4), .val (.int p5), .val (.int s0), .val (.int s1), .val (.int s2), .val (.int (2 : Int32)), .val (.int b0), .val (.int b1), .val (.int b2), .val (.int bp), .val (.int pr), .val (.ref b15), .unset, .unset, .unset, .unset, .unset] [(.int x1), (.int x0)])) t → Steps p.tables e below (s₁.setTop (entryFrame m #[(.int p1), (.int p2), (.int p3), (.int p4), (.int p5)] maxLocals)) t := fun t k => k236 t (by
      show Steps p.tables e below (T230.setTop (mkF m 206 #[.val (.int p1), .val (.int p2), .val (.int p3), .val (.int p4), .val (.int p5), .val (.int s0), .val (.int s1), .val (.int s2), .val (.int (2 : Int32)), .val (.int b0), .val (.int b1), .val (.int b2), .val (.int bp), .val (.int pr), .val (.ref b15), .unset, .unset, .unset, .unset, .unset] [(.int (1 : Int32)), (.int (2 : Int32)), (.int x0)])) _
      refine XS.icmpNo X230.here hx rfl (hb hby at_206) rfl (tlt (by decide)).2.2.2 ?_
      show Steps p.tables e below (T230.setTop (mkF m 209 #[.val (.int p1), .val (.int p2), .val (.int p3), .val (.int p4), .val (.int p5), .val (.int s0), .val (.int s1), .val (.int s2), .val (.int (2 : Int32)), .val (.int b0), .val (.int b1), .val (.int b2), .val (.int bp), .val (.int pr), .val (.ref b15), .unset, .unset, .unset, .unset, .unset] [(.int x0)])) _
      refine XS.iload X230.here hx rfl (hb hby at_209) rfl ?_
      by_cases c211 : b1 = (0 : Int32)
      ·
        show Steps p.tables e below (T230.setTop (mkF m 211 #[.val (.int p1), .val (.int p2), .val (.int p3), .val (.int p4), .val (.int p5), .val (.int s0), .val (.int s1), .val (.int s2), .val (.int (2 : Int32)), .val (.int b0), .val (.int b1), .val (.int b2), .val (.int bp), .val (.int pr), .val (.ref b15), .unset, .unset, .unset, .unset, .unset] [(.int b1), (.int x0)])) _
        refine XS.ifYes X230.here hx rfl (pc0 := 211) (pc' := 218) rfl (hb hby at_211) rfl ((if0 _ _).trans (teq c211).1) (by decide) (by decide) ?_
        show Steps p.tables e below (T230.setTop (mkF m 218 #[.val (.int p1), .val (.int p2), .val (.int p3), .val (.int p4), .val (.int p5), .val (.int s0), .val (.int s1), .val (.int s2), .val (.int (2 : Int32)), .val (.int b0), .val (.int b1), .val (.int b2), .val (.int bp), .val (.int pr), .val (.ref b15), .unset, .unset, .unset, .unset, .unset] [(.int x0)])) _
        refine XS.iconst X230.here hx rfl (hb hby at_218) ?_
        simp only [if_pos c211] at hd_x1
        rw [hd_x1] at k
        exact k
      ·
        show Steps p.tables e below (T230.setTop (mkF m 211 #[.val (.int p1), .val (.int p2), .val (.int p3), .val (.int p4), .val (.int p5), .val (.int s0), .val (.int s1), .val (.int s2), .val (.int (2 : Int32)), .val (.int b0), .val (.int b1), .val (.int b2), .val (.int bp), .val (.int pr), .val (.ref b15), .unset, .unset, .unset, .unset, .unset] [(.int b1), (.int x0)])) _
        refine XS.ifNo X230.here hx rfl (hb hby at_211) rfl ((if0 _ _).trans (feq c211).1) ?_
        show Steps p.tables e below (T230.setTop (mkF m 214 #[.val (.int p1), .val (.int p2), .val (.int p3), .val (.int p4), .val (.int p5), .val (.int s0), .val (.int s1), .val (.int s2), .val (.int (2 : Int32)), .val (.int b0), .val (.int b1), .val (.int b2), .val (.int bp), .val (.int pr), .val (.ref b15), .unset, .unset, .unset, .unset, .unset] [(.int x0)])) _
        refine XS.iconst X230.here hx rfl (hb hby at_214) ?_
        show Steps p.tables e below (T230.setTop (mkF m 215 #[.val (.int p1), .val (.int p2), .val (.int p3), .val (.int p4), .val (.int p5), .val (.int s0), .val (.int s1), .val (.int s2), .val (.int (2 : Int32)), .val (.int b0), .val (.int b1), .val (.int b2), .val (.int bp), .val (.int pr), .val (.ref b15), .unset, .unset, .unset, .unset, .unset] [(.int (1 : Int32)), (.int x0)])) _
        refine XS.goto X230.here hx rfl (pc0 := 215) (pc' := 219) rfl (hb hby at_215) (by decide) (by decide) ?_
        simp only [if_neg c211] at hd_x1
        rw [hd_x1] at k
        exact k)
    have k238 : ∀ t, Steps p.tables e below (T230.setTop (mkF m 223 #[.val (.int p1), .val (.int p2), .val (.int p3), .val (.int p4), .val (.int p5), .val (.int s0), .val (.int s1), .val (.int s2), .val (.int (2 : Int32)), .val (.int b0), .val (.int b1), .val (.int b2), .val (.int bp), .val (.int pr), .val (.ref b15), .unset, .unset, .unset, .unset, .unset] [(.int (2 : Int32)), (.int (2 : Int32)), (.int (x0 + x1))])) t → Steps p.tables e below (s₁.setTop (entryFrame m #[(.int p1), (.int p2), (.int p3), (.int p4), (.int p5)] maxLocals)) t := fun t k => k237 t (by
      show Steps p.tables e below (T230.setTop (mkF m 219 #[.val (.int p1), .val (.int p2), .val (.int p3), .val (.int p4), .val (.int p5), .val (.int s0), .val (.int s1), .val (.int s2), .val (.int (2 : Int32)), .val (.int b0), .val (.int b1), .val (.int b2), .val (.int bp), .val (.int pr), .val (.ref b15), .unset, .unset, .unset, .unset, .unset] [(.int x1), (.int x0)])) _
      refine XS.iadd X230.here hx rfl (hb hby at_219) rfl ?_
      show Steps p.tables e below (T230.setTop (mkF m 220 #[.val (.int p1), .val (.int p2), .val (.int p3), .val (.int p4), .val (.int p5), .val (.int s0), .val (.int s1), .val (.int s2), .val (.int (2 : Int32)), .val (.int b0), .val (.int b1), .val (.int b2), .val (.int bp), .val (.int pr), .val (.ref b15), .unset, .unset, .unset, .unset, .unset] [(.int (x0 + x1))])) _
      refine XS.iload X230.here hx rfl (hb hby at_220) rfl ?_
      show Steps p.tables e below (T230.setTop (mkF m 222 #[.val (.int p1), .val (.int p2), .val (.int p3), .val (.int p4), .val (.int p5), .val (.int s0), .val (.int s1), .val (.int s2), .val (.int (2 : Int32)), .val (.int b0), .val (.int b1), .val (.int b2), .val (.int bp), .val (.int pr), .val (.ref b15), .unset, .unset, .unset, .unset, .unset] [(.int (2 : Int32)), (.int (x0 + x1))])) _
      refine XS.iconst X230.here hx rfl (hb hby at_222) ?_
      exact k)
    have k239 : ∀ t, Steps p.tables e below (T230.setTop (mkF m 236 #[.val (.int p1), .val (.int p2), .val (.int p3), .val (.int p4), .val (.int p5), .val (.int s0), .val (.int s1), .val (.int s2), .val (.int (2 : Int32)), .val (.int b0), .val (.int b1), .val (.int b2), .val (.int bp), .val (.int pr), .val (.ref b15), .unset, .unset, .unset, .unset, .unset] [(.int (0 : Int32)), (.int (x0 + x1))])) t → Steps p.tables e below (s₁.setTop (entryFrame m #[(.int p1), (.int p2), (.int p3), (.int p4), (.int p5)] maxLocals)) t := fun t k => k238 t (by
      show Steps p.tables e below (T230.setTop (mkF m 223 #[.val (.int p1), .val (.int p2), .val (.int p3), .val (.int p4), .val (.int p5), .val (.int s0), .val (.int s1), .val (.int s2), .val (.int (2 : Int32)), .val (.int b0), .val (.int b1), .val (.int b2), .val (.int bp), .val (.int pr), .val (.ref b15), .unset, .unset, .unset, .unset, .unset] [(.int (2 : Int32)), (.int (2 : Int32)), (.int (x0 + x1))])) _
      refine XS.icmpYes X230.here hx rfl (pc0 := 223) (pc' := 235) rfl (hb hby at_223) rfl (flt (by decide)).2.2.2 (by decide) (by decide) ?_
      show Steps p.tables e below (T230.setTop (mkF m 235 #[.val (.int p1), .val (.int p2), .val (.int p3), .val (.int p4), .val (.int p5), .val (.int s0), .val (.int s1), .val (.int s2), .val (.int (2 : Int32)), .val (.int b0), .val (.int b1), .val (.int b2), .val (.int bp), .val (.int pr), .val (.ref b15), .unset, .unset, .unset, .unset, .unset] [(.int (x0 + x1))])) _
      refine XS.iconst X230.here hx rfl (hb hby at_235) ?_
      exact k)
    have k240 : ∀ t, Steps p.tables e below (T230.setTop (mkF m 239 #[.val (.int p1), .val (.int p2), .val (.int p3), .val (.int p4), .val (.int p5), .val (.int s0), .val (.int s1), .val (.int s2), .val (.int (2 : Int32)), .val (.int b0), .val (.int b1), .val (.int b2), .val (.int bp), .val (.int pr), .val (.ref b15), .val (.int ((x0 + x1) + (0 : Int32))), .unset, .unset, .unset, .unset] [])) t → Steps p.tables e below (s₁.setTop (entryFrame m #[(.int p1), (.int p2), (.int p3), (.int p4), (.int p5)] maxLocals)) t := fun t k => k239 t (by
      show Steps p.tables e below (T230.setTop (mkF m 236 #[.val (.int p1), .val (.int p2), .val (.int p3), .val (.int p4), .val (.int p5), .val (.int s0), .val (.int s1), .val (.int s2), .val (.int (2 : Int32)), .val (.int b0), .val (.int b1), .val (.int b2), .val (.int bp), .val (.int pr), .val (.ref b15), .unset, .unset, .unset, .unset, .unset] [(.int (0 : Int32)), (.int (x0 + x1))])) _
      refine XS.iadd X230.here hx rfl (hb hby at_236) rfl ?_
      show Steps p.tables e below (T230.setTop (mkF m 237 #[.val (.int p1), .val (.int p2), .val (.int p3), .val (.int p4), .val (.int p5), .val (.int s0), .val (.int s1), .val (.int s2), .val (.int (2 : Int32)), .val (.int b0), .val (.int b1), .val (.int b2), .val (.int bp), .val (.int pr), .val (.ref b15), .unset, .unset, .unset, .unset, .unset] [(.int ((x0 + x1) + (0 : Int32)))])) _
      refine XS.istore X230.here hx rfl (hb hby at_237) rfl (l' := #[.val (.int p1), .val (.int p2), .val (.int p3), .val (.int p4), .val (.int p5), .val (.int s0), .val (.int s1), .val (.int s2), .val (.int (2 : Int32)), .val (.int b0), .val (.int b1), .val (.int b2), .val (.int bp), .val (.int pr), .val (.ref b15), .val (.int ((x0 + x1) + (0 : Int32))), .unset, .unset, .unset, .unset]) rfl ?_
      exact k)
    obtain ⟨fc, hd_fc⟩ : ∃ z : Int32, z = ((x0 + x1) + (0 : Int32)) := ⟨_, rfl⟩
    have k241 : ∀ t, Steps p.tables e below (T230.setTop (mkF m 239 #[.val (.int p1), .val (.int p2), .val (.int p3), .val (.int p4), .val (.int p5), .val (.int s0), .val (.int s1), .val (.int s2), .val (.int (2 : Int32)), .val (.int b0), .val (.int b1), .val (.int b2), .val (.int bp), .val (.int pr), .val (.ref b15), .val (.int fc), .unset, .unset, .unset, .unset] [])) t → Steps p.tables e below (s₁.setTop (entryFrame m #[(.int p1), (.int p2), (.int p3), (.int p4), (.int p5)] maxLocals)) t := by rw [hd_fc]; exact k240
    rw [hd_x0, hd_x1] at hd_fc
    have FF := own_fin2 (dd := p4) hs0 hy hpr hb0 hb1 hb2 hbp f0 f1 f2 hd_s1 hd_s2 hd_fc hre0 hrm0 hre1 hrm1 hfm1 hre2 hrm2 hfm2
    obtain ⟨pl0, pl1, pl2, r01, im0, im1, im2⟩ := FF
    obtain ⟨E_o, F_e, F_m, F_r, F_c, F_f, F_t, V_e, V_m⟩ := Sn25
    obtain ⟨cq242, kq242, q242a, q242b, q242c⟩ := isOf hZ rfl E233
    obtain ⟨_, _, ⟨T242, L242, kk242, n242⟩, -, X242, ⟨Lc242, hQ242, l242, y242, z242⟩, st242⟩ := X230.virtualBack hx (y := (⟨"com/example/ariadne/ariadne/algo/SplitSearch", "markedCount", "()I"⟩ : MethodName)) (z := (⟨"com/example/ariadne/ariadne/algo/SplitSearch", "markedCount", "()I"⟩ : MethodName)) hown (mvT hZ (hw _ (List.mem_of_getElem? (i := 53) rfl))) (mvT hZ (hw _ (List.mem_of_getElem? (i := 54) rfl))) (notFace_of_selects (args := #[]) (mvT hZ (hw _ (List.mem_of_getElem? (i := 56) rfl)))) (mvT hZ (hw _ (List.mem_of_getElem? (i := 56) rfl))) (mvT hZ (hw _ (List.mem_of_getElem? (i := 55) rfl))) (by decide) (backOf (W := 0) (rm_count l Z a0 hw [] b15 ((0 + 1) + 1) T230.heap n0 (Nat.le_trans Z0 K231.1) F_c) hZ (hw _ (List.mem_of_getElem? (i := 57) rfl)) (hw _ (List.mem_of_getElem? (i := 3) rfl)) (by decide) (by decide)) q242a q242c (g := (mkF m 241 #[.val (.int p1), .val (.int p2), .val (.int p3), .val (.int p4), .val (.int p5), .val (.int s0), .val (.int s1), .val (.int s2), .val (.int (2 : Int32)), .val (.int b0), .val (.int b1), .val (.int b2), .val (.int bp), .val (.int pr), .val (.ref b15), .val (.int fc), .unset, .unset, .unset, .unset] [(.ref b15)])) rfl (by rw [hml]; rfl) (Steps.refl _) (argsL := []) (rest := []) (lenOf pd___I rfl) rfl (by show 2 * 0 + _ ≤ _; exact Nat.le_of_eq rfl) (hb hby at_241) (fun _ _ => ⟨rfl, rfl, (by decide : 11 + 0 ≤ _), (by decide : 48 + 0 ≤ _)⟩)
    dsimp only [Pt.U, Pt.locs, Pt.cells, Pt.slots] at X242 l242 y242 z242 st242 hQ242
    subst l242 y242 z242
    obtain ⟨rfl, N242q, hc_⟩ := hQ242
    have N242 := Fr.app N230 N242q
    obtain ⟨cq243, kq243, q243a, q243b, q243c⟩ := isOf hZ hc_ E233
    obtain ⟨_, _, ⟨T243, L243, kk243, n243⟩, -, X243, ⟨Lc243, hQ243, l243, y243, z243⟩, st243⟩ := X242.virtualBack hx (y := (⟨"com/example/ariadne/ariadne/algo/SplitSearch", "marked", "(I)I"⟩ : MethodName)) (z := (⟨"com/example/ariadne/ariadne/algo/SplitSearch", "marked", "(I)I"⟩ : MethodName)) hown (mvT hZ (hw _ (List.mem_of_getElem? (i := 58) rfl))) (mvT hZ (hw _ (List.mem_of_getElem? (i := 59) rfl))) (notFace_of_selects (args := #[]) (mvT hZ (hw _ (List.mem_of_getElem? (i := 61) rfl)))) (mvT hZ (hw _ (List.mem_of_getElem? (i := 61) rfl))) (mvT hZ (hw _ (List.mem_of_getElem? (i := 60) rfl))) (by decide) (backOf (W := 0) (rm_marked l Z a0 hw [] b15 (0 : Int32) ae ke re2 T230.heap n0 (Nat.le_trans Z0 K231.1) F_e V_e (by decide)) hZ (hw _ (List.mem_of_getElem? (i := 62) rfl)) (hw _ (List.mem_of_getElem? (i := 3) rfl)) (by decide) (by decide)) q243a q243c (g := (mkF m 264 #[.val (.int p1), .val (.int p2), .val (.int p3), .val (.int p4), .val (.int p5), .val (.int s0), .val (.int s1), .val (.int s2), .val (.int (2 : Int32)), .val (.int b0), .val (.int b1), .val (.int b2), .val (.int bp), .val (.int pr), .val (.ref b15), .val (.int fc), .val (.int (1 : Int32)), .unset, .unset, .unset] [(.int (0 : Int32)), (.ref b15)])) rfl (by rw [hml]; rfl) (Steps.refl _) (argsL := [(.int (0 : Int32))]) (rest := []) (lenOf pd__I_I rfl) rfl (by show 2 * 0 + _ ≤ _; exact Nat.le_of_eq rfl) (hb hby at_264) (fun _ _ => ⟨rfl, hc_, (by decide : 11 + 0 ≤ _), (by decide : 48 + 0 ≤ _)⟩)
    dsimp only [Pt.U, Pt.locs, Pt.cells, Pt.slots] at X243 l243 y243 z243 st243 hQ243
    subst l243 y243 z243
    obtain ⟨rfl, N243q, hm26⟩ := hQ243
    have N243 := Fr.app N242 N243q
    obtain ⟨cq244, kq244, q244a, q244b, q244c⟩ := isOf hZ hm26 E233
    obtain ⟨_, _, ⟨T244, L244, kk244, n244⟩, -, X244, ⟨Lc244, hQ244, l244, y244, z244⟩, st244⟩ := X243.virtualBack hx (y := (⟨"com/example/ariadne/ariadne/algo/SplitSearch", "marked", "(I)I"⟩ : MethodName)) (z := (⟨"com/example/ariadne/ariadne/algo/SplitSearch", "marked", "(I)I"⟩ : MethodName)) hown (mvT hZ (hw _ (List.mem_of_getElem? (i := 58) rfl))) (mvT hZ (hw _ (List.mem_of_getElem? (i := 59) rfl))) (notFace_of_selects (args := #[]) (mvT hZ (hw _ (List.mem_of_getElem? (i := 61) rfl)))) (mvT hZ (hw _ (List.mem_of_getElem? (i := 61) rfl))) (mvT hZ (hw _ (List.mem_of_getElem? (i := 60) rfl))) (by decide) (backOf (W := 0) (rm_marked l Z a0 hw [] b15 (1 : Int32) ae ke re2 T230.heap n0 (Nat.le_trans Z0 K231.1) F_e V_e (by decide)) hZ (hw _ (List.mem_of_getElem? (i := 62) rfl)) (hw _ (List.mem_of_getElem? (i := 3) rfl)) (by decide) (by decide)) q244a q244c (g := (mkF m 282 #[.val (.int p1), .val (.int p2), .val (.int p3), .val (.int p4), .val (.int p5), .val (.int s0), .val (.int s1), .val (.int s2), .val (.int (2 : Int32)), .val (.int b0), .val (.int b1), .val (.int b2), .val (.int bp), .val (.int pr), .val (.ref b15), .val (.int fc), .val (.int (1 : Int32)), .val (.int (re2.getD (0 : Int32).toNatClampNeg 0)), .unset, .unset] [(.int (1 : Int32)), (.ref b15)])) rfl (by rw [hml]; rfl) (Steps.refl _) (argsL := [(.int (1 : Int32))]) (rest := []) (lenOf pd__I_I rfl) rfl (by show 2 * 0 + _ ≤ _; exact Nat.le_of_eq rfl) (hb hby at_282) (fun _ _ => ⟨rfl, hm26, (by decide : 11 + 0 ≤ _), (by decide : 48 + 0 ≤ _)⟩)
    dsimp only [Pt.U, Pt.locs, Pt.cells, Pt.slots] at X244 l244 y244 z244 st244 hQ244
    subst l244 y244 z244
    obtain ⟨rfl, N244q, hm27⟩ := hQ244
    have N244 := Fr.app N243 N244q
    obtain ⟨_, _, ⟨T245, L245, kk245, n245⟩, -, X245, ⟨Lc245, hQ245, l245, y245, z245⟩, st245⟩ := Jvm.LawKit.callS X244 hx (y := (⟨"com/example/ariadne/ariadne/algo/SplitSearchMarkPinLaw", "placeOk", "(IIIIIIII)Z"⟩ : MethodName)) hown (mvT hZ (hw _ (List.mem_of_getElem? (i := 63) rfl))) (mvT hZ (hw _ (List.mem_of_getElem? (i := 64) rfl))) (mvT hZ (hw _ (List.mem_of_getElem? (i := 65) rfl))) (mvT hZ (hw _ (List.mem_of_getElem? (i := 66) rfl))) (by decide) (backOf (W := 0) (rm_placeOk l Z a0 hw [] (0 : Int32) (re2.getD (0 : Int32).toNatClampNeg 0) (2 : Int32) fc s0 s1 s2 p4 T230.heap n0 (Nat.le_trans Z0 K231.1)) hZ (hw _ (List.mem_of_getElem? (i := 66) rfl)) (hw _ (List.mem_of_getElem? (i := 65) rfl)) (by decide) (by decide)) (g := (mkF m 328 #[.val (.int p1), .val (.int p2), .val (.int p3), .val (.int p4), .val (.int p5), .val (.int s0), .val (.int s1), .val (.int s2), .val (.int (2 : Int32)), .val (.int b0), .val (.int b1), .val (.int b2), .val (.int bp), .val (.int pr), .val (.ref b15), .val (.int fc), .val (.int (1 : Int32)), .val (.int (re2.getD (0 : Int32).toNatClampNeg 0)), .val (.int (re2.getD (1 : Int32).toNatClampNeg 0)), .val (.int (-1 : Int32))] [(.int p4), (.int s2), (.int s1), (.int s0), (.int fc), (.int (2 : Int32)), (.int (re2.getD (0 : Int32).toNatClampNeg 0)), (.int (0 : Int32))])) rfl (by rw [hml]; rfl) (argsL := [(.int (0 : Int32)), (.int (re2.getD (0 : Int32).toNatClampNeg 0)), (.int (2 : Int32)), (.int fc), (.int s0), (.int s1), (.int s2), (.int p4)]) (rest := []) (lenOf pd__IIIIIIII_Z rfl) rfl (by show 2 * 0 + _ ≤ _; exact Nat.le_of_eq rfl) (hb hby at_328) (fun _ _ => ⟨rfl, hm27, (by decide : 11 + 0 ≤ _), (by decide : 48 + 0 ≤ _)⟩)
    dsimp only [Pt.U, Pt.locs, Pt.cells, Pt.slots] at X245 l245 y245 z245 st245 hQ245
    subst l245 y245 z245
    obtain ⟨rfl, N245q, hp28⟩ := hQ245
    have N245 := Fr.app N244 N245q
    obtain ⟨_, _, ⟨T246, L246, kk246, n246⟩, -, X246, ⟨Lc246, hQ246, l246, y246, z246⟩, st246⟩ := Jvm.LawKit.callS X245 hx (y := (⟨"com/example/ariadne/ariadne/algo/SplitSearchMarkPinLaw", "placeOk", "(IIIIIIII)Z"⟩ : MethodName)) hown (mvT hZ (hw _ (List.mem_of_getElem? (i := 63) rfl))) (mvT hZ (hw _ (List.mem_of_getElem? (i := 64) rfl))) (mvT hZ (hw _ (List.mem_of_getElem? (i := 65) rfl))) (mvT hZ (hw _ (List.mem_of_getElem? (i := 66) rfl))) (by decide) (backOf (W := 0) (rm_placeOk l Z a0 hw [] (1 : Int32) (re2.getD (1 : Int32).toNatClampNeg 0) (2 : Int32) fc s0 s1 s2 p4 T230.heap n0 (Nat.le_trans Z0 K231.1)) hZ (hw _ (List.mem_of_getElem? (i := 66) rfl)) (hw _ (List.mem_of_getElem? (i := 65) rfl)) (by decide) (by decide)) (g := (mkF m 360 #[.val (.int p1), .val (.int p2), .val (.int p3), .val (.int p4), .val (.int p5), .val (.int s0), .val (.int s1), .val (.int s2), .val (.int (2 : Int32)), .val (.int b0), .val (.int b1), .val (.int b2), .val (.int bp), .val (.int pr), .val (.ref b15), .val (.int fc), .val (.int (1 : Int32)), .val (.int (re2.getD (0 : Int32).toNatClampNeg 0)), .val (.int (re2.getD (1 : Int32).toNatClampNeg 0)), .val (.int (-1 : Int32))] [(.int p4), (.int s2), (.int s1), (.int s0), (.int fc), (.int (2 : Int32)), (.int (re2.getD (1 : Int32).toNatClampNeg 0)), (.int (1 : Int32))])) rfl (by rw [hml]; rfl) (argsL := [(.int (1 : Int32)), (.int (re2.getD (1 : Int32).toNatClampNeg 0)), (.int (2 : Int32)), (.int fc), (.int s0), (.int s1), (.int s2), (.int p4)]) (rest := []) (lenOf pd__IIIIIIII_Z rfl) rfl (by show 2 * 0 + _ ≤ _; exact Nat.le_of_eq rfl) (hb hby at_360) (fun _ _ => ⟨rfl, hp28, (by decide : 11 + 0 ≤ _), (by decide : 48 + 0 ≤ _)⟩)
    dsimp only [Pt.U, Pt.locs, Pt.cells, Pt.slots] at X246 l246 y246 z246 st246 hQ246
    subst l246 y246 z246
    obtain ⟨rfl, N246q, hp29⟩ := hQ246
    have N246 := Fr.app N245 N246q
    obtain ⟨_, _, ⟨T247, L247, kk247, n247⟩, -, X247, ⟨Lc247, hQ247, l247, y247, z247⟩, st247⟩ := Jvm.LawKit.callS X246 hx (y := (⟨"com/example/ariadne/ariadne/algo/SplitSearchMarkPinLaw", "placeOk", "(IIIIIIII)Z"⟩ : MethodName)) hown (mvT hZ (hw _ (List.mem_of_getElem? (i := 63) rfl))) (mvT hZ (hw _ (List.mem_of_getElem? (i := 64) rfl))) (mvT hZ (hw _ (List.mem_of_getElem? (i := 65) rfl))) (mvT hZ (hw _ (List.mem_of_getElem? (i := 66) rfl))) (by decide) (backOf (W := 0) (rm_placeOk l Z a0 hw [] (2 : Int32) (-1 : Int32) (2 : Int32) fc s0 s1 s2 p4 T230.heap n0 (Nat.le_trans Z0 K231.1)) hZ (hw _ (List.mem_of_getElem? (i := 66) rfl)) (hw _ (List.mem_of_getElem? (i := 65) rfl)) (by decide) (by decide)) (g := (mkF m 392 #[.val (.int p1), .val (.int p2), .val (.int p3), .val (.int p4), .val (.int p5), .val (.int s0), .val (.int s1), .val (.int s2), .val (.int (2 : Int32)), .val (.int b0), .val (.int b1), .val (.int b2), .val (.int bp), .val (.int pr), .val (.ref b15), .val (.int fc), .val (.int (1 : Int32)), .val (.int (re2.getD (0 : Int32).toNatClampNeg 0)), .val (.int (re2.getD (1 : Int32).toNatClampNeg 0)), .val (.int (-1 : Int32))] [(.int p4), (.int s2), (.int s1), (.int s0), (.int fc), (.int (2 : Int32)), (.int (-1 : Int32)), (.int (2 : Int32))])) rfl (by rw [hml]; rfl) (argsL := [(.int (2 : Int32)), (.int (-1 : Int32)), (.int (2 : Int32)), (.int fc), (.int s0), (.int s1), (.int s2), (.int p4)]) (rest := []) (lenOf pd__IIIIIIII_Z rfl) rfl (by show 2 * 0 + _ ≤ _; exact Nat.le_of_eq rfl) (hb hby at_392) (fun _ _ => ⟨rfl, hp29, (by decide : 11 + 0 ≤ _), (by decide : 48 + 0 ≤ _)⟩)
    dsimp only [Pt.U, Pt.locs, Pt.cells, Pt.slots] at X247 l247 y247 z247 st247 hQ247
    subst l247 y247 z247
    obtain ⟨rfl, N247q, hp30⟩ := hQ247
    have N247 := Fr.app N246 N247q
    obtain ⟨cq248, kq248, q248a, q248b, q248c⟩ := isOf hZ hp30 E233
    obtain ⟨_, _, ⟨T248, L248, kk248, n248⟩, -, X248, ⟨Lc248, hQ248, l248, y248, z248⟩, st248⟩ := X247.virtualBack hx (y := (⟨"com/example/ariadne/ariadne/algo/SplitSearch", "isMarked", "(I)Z"⟩ : MethodName)) (z := (⟨"com/example/ariadne/ariadne/algo/SplitSearch", "isMarked", "(I)Z"⟩ : MethodName)) hown (mvT hZ (hw _ (List.mem_of_getElem? (i := 67) rfl))) (mvT hZ (hw _ (List.mem_of_getElem? (i := 68) rfl))) (notFace_of_selects (args := #[]) (mvT hZ (hw _ (List.mem_of_getElem? (i := 70) rfl)))) (mvT hZ (hw _ (List.mem_of_getElem? (i := 70) rfl))) (mvT hZ (hw _ (List.mem_of_getElem? (i := 69) rfl))) (by decide) (backOf (W := 0) (rm_isMarked l Z a0 hw [] b15 (0 : Int32) am km rm2 ((0 + 1) + 1) T230.heap n0 (Nat.le_trans Z0 K231.1) F_m F_r V_m (by decide)) hZ (hw _ (List.mem_of_getElem? (i := 71) rfl)) (hw _ (List.mem_of_getElem? (i := 3) rfl)) (by decide) (by decide)) q248a q248c (g := (mkF m 470 #[.val (.int p1), .val (.int p2), .val (.int p3), .val (.int p4), .val (.int p5), .val (.int s0), .val (.int s1), .val (.int s2), .val (.int (2 : Int32)), .val (.int b0), .val (.int b1), .val (.int b2), .val (.int bp), .val (.int pr), .val (.ref b15), .val (.int fc), .val (.int (1 : Int32)), .val (.int (re2.getD (0 : Int32).toNatClampNeg 0)), .val (.int (re2.getD (1 : Int32).toNatClampNeg 0)), .val (.int (-1 : Int32))] [(.int (0 : Int32)), (.ref b15)])) rfl (by rw [hml]; rfl) (Steps.refl _) (argsL := [(.int (0 : Int32))]) (rest := []) (lenOf pd__I_Z rfl) rfl (by show 2 * 0 + _ ≤ _; exact Nat.le_of_eq rfl) (hb hby at_470) (fun _ _ => ⟨rfl, hp30, (by decide : 11 + 0 ≤ _), (by decide : 48 + 0 ≤ _)⟩)
    dsimp only [Pt.U, Pt.locs, Pt.cells, Pt.slots] at X248 l248 y248 z248 st248 hQ248
    subst l248 y248 z248
    obtain ⟨rfl, N248q, hi31⟩ := hQ248
    have N248 := Fr.app N247 N248q
    obtain ⟨_, _, ⟨T249, L249, kk249, n249⟩, -, X249, ⟨Lc249, hQ249, l249, y249, z249⟩, st249⟩ := Jvm.LawKit.callS X248 hx (y := (⟨"com/example/ariadne/ariadne/algo/SplitSearchMarkPinLaw", "expectedMarked", "(IIIII)Z"⟩ : MethodName)) hown (mvT hZ (hw _ (List.mem_of_getElem? (i := 72) rfl))) (mvT hZ (hw _ (List.mem_of_getElem? (i := 73) rfl))) (mvT hZ (hw _ (List.mem_of_getElem? (i := 65) rfl))) (mvT hZ (hw _ (List.mem_of_getElem? (i := 74) rfl))) (by decide) (backOf (W := 1) (rm_expected l Z a0 hw [] (0 : Int32) (2 : Int32) s0 s1 s2 T230.heap n0 (Nat.le_trans Z0 K231.1)) hZ (hw _ (List.mem_of_getElem? (i := 74) rfl)) (hw _ (List.mem_of_getElem? (i := 65) rfl)) (by decide) (by decide)) (g := (mkF m 482 #[.val (.int p1), .val (.int p2), .val (.int p3), .val (.int p4), .val (.int p5), .val (.int s0), .val (.int s1), .val (.int s2), .val (.int (2 : Int32)), .val (.int b0), .val (.int b1), .val (.int b2), .val (.int bp), .val (.int pr), .val (.ref b15), .val (.int fc), .val (.int (1 : Int32)), .val (.int (re2.getD (0 : Int32).toNatClampNeg 0)), .val (.int (re2.getD (1 : Int32).toNatClampNeg 0)), .val (.int (-1 : Int32))] [(.int s2), (.int s1), (.int s0), (.int (2 : Int32)), (.int (0 : Int32)), (.int (own_ism (0 : Int32) rm2 ((0 + 1) + 1)))])) rfl (by rw [hml]; rfl) (argsL := [(.int (0 : Int32)), (.int (2 : Int32)), (.int s0), (.int s1), (.int s2)]) (rest := [(.int (own_ism (0 : Int32) rm2 ((0 + 1) + 1)))]) (lenOf pd__IIIII_Z rfl) rfl (by show 2 * 0 + _ ≤ _; exact Nat.le_of_eq rfl) (hb hby at_482) (fun _ _ => ⟨rfl, hi31, (by decide : 11 + 0 ≤ _), (by decide : 48 + 0 ≤ _)⟩)
    dsimp only [Pt.U, Pt.locs, Pt.cells, Pt.slots] at X249 l249 y249 z249 st249 hQ249
    subst l249 y249 z249
    obtain ⟨rfl, N249q, he32⟩ := hQ249
    have N249 := Fr.app N248 N249q
    obtain ⟨cq250, kq250, q250a, q250b, q250c⟩ := isOf hZ he32 E233
    obtain ⟨_, _, ⟨T250, L250, kk250, n250⟩, -, X250, ⟨Lc250, hQ250, l250, y250, z250⟩, st250⟩ := X249.virtualBack hx (y := (⟨"com/example/ariadne/ariadne/algo/SplitSearch", "isMarked", "(I)Z"⟩ : MethodName)) (z := (⟨"com/example/ariadne/ariadne/algo/SplitSearch", "isMarked", "(I)Z"⟩ : MethodName)) hown (mvT hZ (hw _ (List.mem_of_getElem? (i := 67) rfl))) (mvT hZ (hw _ (List.mem_of_getElem? (i := 68) rfl))) (notFace_of_selects (args := #[]) (mvT hZ (hw _ (List.mem_of_getElem? (i := 70) rfl)))) (mvT hZ (hw _ (List.mem_of_getElem? (i := 70) rfl))) (mvT hZ (hw _ (List.mem_of_getElem? (i := 69) rfl))) (by decide) (backOf (W := 0) (rm_isMarked l Z a0 hw [] b15 (1 : Int32) am km rm2 ((0 + 1) + 1) T230.heap n0 (Nat.le_trans Z0 K231.1) F_m F_r V_m (by decide)) hZ (hw _ (List.mem_of_getElem? (i := 71) rfl)) (hw _ (List.mem_of_getElem? (i := 3) rfl)) (by decide) (by decide)) q250a q250c (g := (mkF m 503 #[.val (.int p1), .val (.int p2), .val (.int p3), .val (.int p4), .val (.int p5), .val (.int s0), .val (.int s1), .val (.int s2), .val (.int (2 : Int32)), .val (.int b0), .val (.int b1), .val (.int b2), .val (.int bp), .val (.int pr), .val (.ref b15), .val (.int fc), .val (.int (1 : Int32)), .val (.int (re2.getD (0 : Int32).toNatClampNeg 0)), .val (.int (re2.getD (1 : Int32).toNatClampNeg 0)), .val (.int (-1 : Int32))] [(.int (1 : Int32)), (.ref b15)])) rfl (by rw [hml]; rfl) (Steps.refl _) (argsL := [(.int (1 : Int32))]) (rest := []) (lenOf pd__I_Z rfl) rfl (by show 2 * 0 + _ ≤ _; exact Nat.le_of_eq rfl) (hb hby at_503) (fun _ _ => ⟨rfl, he32, (by decide : 11 + 0 ≤ _), (by decide : 48 + 0 ≤ _)⟩)
    dsimp only [Pt.U, Pt.locs, Pt.cells, Pt.slots] at X250 l250 y250 z250 st250 hQ250
    subst l250 y250 z250
    obtain ⟨rfl, N250q, hi33⟩ := hQ250
    have N250 := Fr.app N249 N250q
    obtain ⟨_, _, ⟨T251, L251, kk251, n251⟩, -, X251, ⟨Lc251, hQ251, l251, y251, z251⟩, st251⟩ := Jvm.LawKit.callS X250 hx (y := (⟨"com/example/ariadne/ariadne/algo/SplitSearchMarkPinLaw", "expectedMarked", "(IIIII)Z"⟩ : MethodName)) hown (mvT hZ (hw _ (List.mem_of_getElem? (i := 72) rfl))) (mvT hZ (hw _ (List.mem_of_getElem? (i := 73) rfl))) (mvT hZ (hw _ (List.mem_of_getElem? (i := 65) rfl))) (mvT hZ (hw _ (List.mem_of_getElem? (i := 74) rfl))) (by decide) (backOf (W := 1) (rm_expected l Z a0 hw [] (1 : Int32) (2 : Int32) s0 s1 s2 T230.heap n0 (Nat.le_trans Z0 K231.1)) hZ (hw _ (List.mem_of_getElem? (i := 74) rfl)) (hw _ (List.mem_of_getElem? (i := 65) rfl)) (by decide) (by decide)) (g := (mkF m 515 #[.val (.int p1), .val (.int p2), .val (.int p3), .val (.int p4), .val (.int p5), .val (.int s0), .val (.int s1), .val (.int s2), .val (.int (2 : Int32)), .val (.int b0), .val (.int b1), .val (.int b2), .val (.int bp), .val (.int pr), .val (.ref b15), .val (.int fc), .val (.int (1 : Int32)), .val (.int (re2.getD (0 : Int32).toNatClampNeg 0)), .val (.int (re2.getD (1 : Int32).toNatClampNeg 0)), .val (.int (-1 : Int32))] [(.int s2), (.int s1), (.int s0), (.int (2 : Int32)), (.int (1 : Int32)), (.int (own_ism (1 : Int32) rm2 ((0 + 1) + 1)))])) rfl (by rw [hml]; rfl) (argsL := [(.int (1 : Int32)), (.int (2 : Int32)), (.int s0), (.int s1), (.int s2)]) (rest := [(.int (own_ism (1 : Int32) rm2 ((0 + 1) + 1)))]) (lenOf pd__IIIII_Z rfl) rfl (by show 2 * 0 + _ ≤ _; exact Nat.le_of_eq rfl) (hb hby at_515) (fun _ _ => ⟨rfl, hi33, (by decide : 11 + 0 ≤ _), (by decide : 48 + 0 ≤ _)⟩)
    dsimp only [Pt.U, Pt.locs, Pt.cells, Pt.slots] at X251 l251 y251 z251 st251 hQ251
    subst l251 y251 z251
    obtain ⟨rfl, N251q, he34⟩ := hQ251
    have N251 := Fr.app N250 N251q
    obtain ⟨cq252, kq252, q252a, q252b, q252c⟩ := isOf hZ he34 E233
    obtain ⟨_, _, ⟨T252, L252, kk252, n252⟩, -, X252, ⟨Lc252, hQ252, l252, y252, z252⟩, st252⟩ := X251.virtualBack hx (y := (⟨"com/example/ariadne/ariadne/algo/SplitSearch", "isMarked", "(I)Z"⟩ : MethodName)) (z := (⟨"com/example/ariadne/ariadne/algo/SplitSearch", "isMarked", "(I)Z"⟩ : MethodName)) hown (mvT hZ (hw _ (List.mem_of_getElem? (i := 67) rfl))) (mvT hZ (hw _ (List.mem_of_getElem? (i := 68) rfl))) (notFace_of_selects (args := #[]) (mvT hZ (hw _ (List.mem_of_getElem? (i := 70) rfl)))) (mvT hZ (hw _ (List.mem_of_getElem? (i := 70) rfl))) (mvT hZ (hw _ (List.mem_of_getElem? (i := 69) rfl))) (by decide) (backOf (W := 0) (rm_isMarked l Z a0 hw [] b15 (2 : Int32) am km rm2 ((0 + 1) + 1) T230.heap n0 (Nat.le_trans Z0 K231.1) F_m F_r V_m (by decide)) hZ (hw _ (List.mem_of_getElem? (i := 71) rfl)) (hw _ (List.mem_of_getElem? (i := 3) rfl)) (by decide) (by decide)) q252a q252c (g := (mkF m 536 #[.val (.int p1), .val (.int p2), .val (.int p3), .val (.int p4), .val (.int p5), .val (.int s0), .val (.int s1), .val (.int s2), .val (.int (2 : Int32)), .val (.int b0), .val (.int b1), .val (.int b2), .val (.int bp), .val (.int pr), .val (.ref b15), .val (.int fc), .val (.int (1 : Int32)), .val (.int (re2.getD (0 : Int32).toNatClampNeg 0)), .val (.int (re2.getD (1 : Int32).toNatClampNeg 0)), .val (.int (-1 : Int32))] [(.int (2 : Int32)), (.ref b15)])) rfl (by rw [hml]; rfl) (Steps.refl _) (argsL := [(.int (2 : Int32))]) (rest := []) (lenOf pd__I_Z rfl) rfl (by show 2 * 0 + _ ≤ _; exact Nat.le_of_eq rfl) (hb hby at_536) (fun _ _ => ⟨rfl, he34, (by decide : 11 + 0 ≤ _), (by decide : 48 + 0 ≤ _)⟩)
    dsimp only [Pt.U, Pt.locs, Pt.cells, Pt.slots] at X252 l252 y252 z252 st252 hQ252
    subst l252 y252 z252
    obtain ⟨rfl, N252q, hi35⟩ := hQ252
    have N252 := Fr.app N251 N252q
    obtain ⟨_, _, ⟨T253, L253, kk253, n253⟩, -, X253, ⟨Lc253, hQ253, l253, y253, z253⟩, st253⟩ := Jvm.LawKit.callS X252 hx (y := (⟨"com/example/ariadne/ariadne/algo/SplitSearchMarkPinLaw", "expectedMarked", "(IIIII)Z"⟩ : MethodName)) hown (mvT hZ (hw _ (List.mem_of_getElem? (i := 72) rfl))) (mvT hZ (hw _ (List.mem_of_getElem? (i := 73) rfl))) (mvT hZ (hw _ (List.mem_of_getElem? (i := 65) rfl))) (mvT hZ (hw _ (List.mem_of_getElem? (i := 74) rfl))) (by decide) (backOf (W := 1) (rm_expected l Z a0 hw [] (2 : Int32) (2 : Int32) s0 s1 s2 T230.heap n0 (Nat.le_trans Z0 K231.1)) hZ (hw _ (List.mem_of_getElem? (i := 74) rfl)) (hw _ (List.mem_of_getElem? (i := 65) rfl)) (by decide) (by decide)) (g := (mkF m 548 #[.val (.int p1), .val (.int p2), .val (.int p3), .val (.int p4), .val (.int p5), .val (.int s0), .val (.int s1), .val (.int s2), .val (.int (2 : Int32)), .val (.int b0), .val (.int b1), .val (.int b2), .val (.int bp), .val (.int pr), .val (.ref b15), .val (.int fc), .val (.int (1 : Int32)), .val (.int (re2.getD (0 : Int32).toNatClampNeg 0)), .val (.int (re2.getD (1 : Int32).toNatClampNeg 0)), .val (.int (-1 : Int32))] [(.int s2), (.int s1), (.int s0), (.int (2 : Int32)), (.int (2 : Int32)), (.int (own_ism (2 : Int32) rm2 ((0 + 1) + 1)))])) rfl (by rw [hml]; rfl) (argsL := [(.int (2 : Int32)), (.int (2 : Int32)), (.int s0), (.int s1), (.int s2)]) (rest := [(.int (own_ism (2 : Int32) rm2 ((0 + 1) + 1)))]) (lenOf pd__IIIII_Z rfl) rfl (by show 2 * 0 + _ ≤ _; exact Nat.le_of_eq rfl) (hb hby at_548) (fun _ _ => ⟨rfl, hi35, (by decide : 11 + 0 ≤ _), (by decide : 48 + 0 ≤ _)⟩)
    dsimp only [Pt.U, Pt.locs, Pt.cells, Pt.slots] at X253 l253 y253 z253 st253 hQ253
    subst l253 y253 z253
    obtain ⟨rfl, N253q, he36⟩ := hQ253
    have N253 := Fr.app N252 N253q
    have k255 : ∀ t, Steps p.tables e below (T253.setTop (mkF m 563 #[.val (.int p1), .val (.int p2), .val (.int p3), .val (.int p4), .val (.int p5), .val (.int s0), .val (.int s1), .val (.int s2), .val (.int (2 : Int32)), .val (.int b0), .val (.int b1), .val (.int b2), .val (.int bp), .val (.int pr), .val (.ref b15), .val (.int fc), .val (.int (1 : Int32)), .val (.int (re2.getD (0 : Int32).toNatClampNeg 0)), .val (.int (re2.getD (1 : Int32).toNatClampNeg 0)), .val (.int (-1 : Int32))] [(.int (1 : Int32))])) t → Steps p.tables e below (s₁.setTop (entryFrame m #[(.int p1), (.int p2), (.int p3), (.int p4), (.int p5)] maxLocals)) t := fun t k => k241 t (by
      show Steps p.tables e below (T230.setTop (mkF m 239 #[.val (.int p1), .val (.int p2), .val (.int p3), .val (.int p4), .val (.int p5), .val (.int s0), .val (.int s1), .val (.int s2), .val (.int (2 : Int32)), .val (.int b0), .val (.int b1), .val (.int b2), .val (.int bp), .val (.int pr), .val (.ref b15), .val (.int fc), .unset, .unset, .unset, .unset] [])) _
      refine XS.aload X230.here hx rfl (hb hby at_239) rfl rfl ?_
      show Steps p.tables e below (T230.setTop (mkF m 241 #[.val (.int p1), .val (.int p2), .val (.int p3), .val (.int p4), .val (.int p5), .val (.int s0), .val (.int s1), .val (.int s2), .val (.int (2 : Int32)), .val (.int b0), .val (.int b1), .val (.int b2), .val (.int bp), .val (.int pr), .val (.ref b15), .val (.int fc), .unset, .unset, .unset, .unset] [(.ref b15)])) _
      refine st242.trans ?_
      show Steps p.tables e below (T242.setTop (mkF m 244 #[.val (.int p1), .val (.int p2), .val (.int p3), .val (.int p4), .val (.int p5), .val (.int s0), .val (.int s1), .val (.int s2), .val (.int (2 : Int32)), .val (.int b0), .val (.int b1), .val (.int b2), .val (.int bp), .val (.int pr), .val (.ref b15), .val (.int fc), .unset, .unset, .unset, .unset] [(.int ((0 + 1) + 1))])) _
      refine XS.iload X242.here hx rfl (hb hby at_244) rfl ?_
      show Steps p.tables e below (T242.setTop (mkF m 246 #[.val (.int p1), .val (.int p2), .val (.int p3), .val (.int p4), .val (.int p5), .val (.int s0), .val (.int s1), .val (.int s2), .val (.int (2 : Int32)), .val (.int b0), .val (.int b1), .val (.int b2), .val (.int bp), .val (.int pr), .val (.ref b15), .val (.int fc), .unset, .unset, .unset, .unset] [(.int (2 : Int32)), (.int ((0 + 1) + 1))])) _
      refine XS.icmpNo X242.here hx rfl (hb hby at_246) rfl (teq (by decide)).2 ?_
      show Steps p.tables e below (T242.setTop (mkF m 249 #[.val (.int p1), .val (.int p2), .val (.int p3), .val (.int p4), .val (.int p5), .val (.int s0), .val (.int s1), .val (.int s2), .val (.int (2 : Int32)), .val (.int b0), .val (.int b1), .val (.int b2), .val (.int bp), .val (.int pr), .val (.ref b15), .val (.int fc), .unset, .unset, .unset, .unset] [])) _
      refine XS.iconst X242.here hx rfl (hb hby at_249) ?_
      show Steps p.tables e below (T242.setTop (mkF m 250 #[.val (.int p1), .val (.int p2), .val (.int p3), .val (.int p4), .val (.int p5), .val (.int s0), .val (.int s1), .val (.int s2), .val (.int (2 : Int32)), .val (.int b0), .val (.int b1), .val (.int b2), .val (.int bp), .val (.int pr), .val (.ref b15), .val (.int fc), .unset, .unset, .unset, .unset] [(.int (1 : Int32))])) _
      refine XS.goto X242.here hx rfl (pc0 := 250) (pc' := 254) rfl (hb hby at_250) (by decide) (by decide) ?_
      show Steps p.tables e below (T242.setTop (mkF m 254 #[.val (.int p1), .val (.int p2), .val (.int p3), .val (.int p4), .val (.int p5), .val (.int s0), .val (.int s1), .val (.int s2), .val (.int (2 : Int32)), .val (.int b0), .val (.int b1), .val (.int b2), .val (.int bp), .val (.int pr), .val (.ref b15), .val (.int fc), .unset, .unset, .unset, .unset] [(.int (1 : Int32))])) _
      refine XS.istore X242.here hx rfl (hb hby at_254) rfl (l' := #[.val (.int p1), .val (.int p2), .val (.int p3), .val (.int p4), .val (.int p5), .val (.int s0), .val (.int s1), .val (.int s2), .val (.int (2 : Int32)), .val (.int b0), .val (.int b1), .val (.int b2), .val (.int bp), .val (.int pr), .val (.ref b15), .val (.int fc), .val (.int (1 : Int32)), .unset, .unset, .unset]) rfl ?_
      show Steps p.tables e below (T242.setTop (mkF m 256 #[.val (.int p1), .val (.int p2), .val (.int p3), .val (.int p4), .val (.int p5), .val (.int s0), .val (.int s1), .val (.int s2), .val (.int (2 : Int32)), .val (.int b0), .val (.int b1), .val (.int b2), .val (.int bp), .val (.int pr), .val (.ref b15), .val (.int fc), .val (.int (1 : Int32)), .unset, .unset, .unset] [])) _
      refine XS.iload X242.here hx rfl (hb hby at_256) rfl ?_
      show Steps p.tables e below (T242.setTop (mkF m 258 #[.val (.int p1), .val (.int p2), .val (.int p3), .val (.int p4), .val (.int p5), .val (.int s0), .val (.int s1), .val (.int s2), .val (.int (2 : Int32)), .val (.int b0), .val (.int b1), .val (.int b2), .val (.int bp), .val (.int pr), .val (.ref b15), .val (.int fc), .val (.int (1 : Int32)), .unset, .unset, .unset] [(.int (2 : Int32))])) _
      refine XS.ifNo X242.here hx rfl (hb hby at_258) rfl ((if0 _ _).trans (tlt (by decide)).2.2.2) ?_
      show Steps p.tables e below (T242.setTop (mkF m 261 #[.val (.int p1), .val (.int p2), .val (.int p3), .val (.int p4), .val (.int p5), .val (.int s0), .val (.int s1), .val (.int s2), .val (.int (2 : Int32)), .val (.int b0), .val (.int b1), .val (.int b2), .val (.int bp), .val (.int pr), .val (.ref b15), .val (.int fc), .val (.int (1 : Int32)), .unset, .unset, .unset] [])) _
      refine XS.aload X242.here hx rfl (hb hby at_261) rfl rfl ?_
      show Steps p.tables e below (T242.setTop (mkF m 263 #[.val (.int p1), .val (.int p2), .val (.int p3), .val (.int p4), .val (.int p5), .val (.int s0), .val (.int s1), .val (.int s2), .val (.int (2 : Int32)), .val (.int b0), .val (.int b1), .val (.int b2), .val (.int bp), .val (.int pr), .val (.ref b15), .val (.int fc), .val (.int (1 : Int32)), .unset, .unset, .unset] [(.ref b15)])) _
      refine XS.iconst X242.here hx rfl (hb hby at_263) ?_
      show Steps p.tables e below (T242.setTop (mkF m 264 #[.val (.int p1), .val (.int p2), .val (.int p3), .val (.int p4), .val (.int p5), .val (.int s0), .val (.int s1), .val (.int s2), .val (.int (2 : Int32)), .val (.int b0), .val (.int b1), .val (.int b2), .val (.int bp), .val (.int pr), .val (.ref b15), .val (.int fc), .val (.int (1 : Int32)), .unset, .unset, .unset] [(.int (0 : Int32)), (.ref b15)])) _
      refine st243.trans ?_
      show Steps p.tables e below (T243.setTop (mkF m 267 #[.val (.int p1), .val (.int p2), .val (.int p3), .val (.int p4), .val (.int p5), .val (.int s0), .val (.int s1), .val (.int s2), .val (.int (2 : Int32)), .val (.int b0), .val (.int b1), .val (.int b2), .val (.int bp), .val (.int pr), .val (.ref b15), .val (.int fc), .val (.int (1 : Int32)), .unset, .unset, .unset] [(.int (re2.getD (0 : Int32).toNatClampNeg 0))])) _
      refine XS.goto X243.here hx rfl (pc0 := 267) (pc' := 271) rfl (hb hby at_267) (by decide) (by decide) ?_
      show Steps p.tables e below (T243.setTop (mkF m 271 #[.val (.int p1), .val (.int p2), .val (.int p3), .val (.int p4), .val (.int p5), .val (.int s0), .val (.int s1), .val (.int s2), .val (.int (2 : Int32)), .val (.int b0), .val (.int b1), .val (.int b2), .val (.int bp), .val (.int pr), .val (.ref b15), .val (.int fc), .val (.int (1 : Int32)), .unset, .unset, .unset] [(.int (re2.getD (0 : Int32).toNatClampNeg 0))])) _
      refine XS.istore X243.here hx rfl (hb hby at_271) rfl (l' := #[.val (.int p1), .val (.int p2), .val (.int p3), .val (.int p4), .val (.int p5), .val (.int s0), .val (.int s1), .val (.int s2), .val (.int (2 : Int32)), .val (.int b0), .val (.int b1), .val (.int b2), .val (.int bp), .val (.int pr), .val (.ref b15), .val (.int fc), .val (.int (1 : Int32)), .val (.int (re2.getD (0 : Int32).toNatClampNeg 0)), .unset, .unset]) rfl ?_
      show Steps p.tables e below (T243.setTop (mkF m 273 #[.val (.int p1), .val (.int p2), .val (.int p3), .val (.int p4), .val (.int p5), .val (.int s0), .val (.int s1), .val (.int s2), .val (.int (2 : Int32)), .val (.int b0), .val (.int b1), .val (.int b2), .val (.int bp), .val (.int pr), .val (.ref b15), .val (.int fc), .val (.int (1 : Int32)), .val (.int (re2.getD (0 : Int32).toNatClampNeg 0)), .unset, .unset] [])) _
      refine XS.iload X243.here hx rfl (hb hby at_273) rfl ?_
      show Steps p.tables e below (T243.setTop (mkF m 275 #[.val (.int p1), .val (.int p2), .val (.int p3), .val (.int p4), .val (.int p5), .val (.int s0), .val (.int s1), .val (.int s2), .val (.int (2 : Int32)), .val (.int b0), .val (.int b1), .val (.int b2), .val (.int bp), .val (.int pr), .val (.ref b15), .val (.int fc), .val (.int (1 : Int32)), .val (.int (re2.getD (0 : Int32).toNatClampNeg 0)), .unset, .unset] [(.int (2 : Int32))])) _
      refine XS.iconst X243.here hx rfl (hb hby at_275) ?_
      show Steps p.tables e below (T243.setTop (mkF m 276 #[.val (.int p1), .val (.int p2), .val (.int p3), .val (.int p4), .val (.int p5), .val (.int s0), .val (.int s1), .val (.int s2), .val (.int (2 : Int32)), .val (.int b0), .val (.int b1), .val (.int b2), .val (.int bp), .val (.int pr), .val (.ref b15), .val (.int fc), .val (.int (1 : Int32)), .val (.int (re2.getD (0 : Int32).toNatClampNeg 0)), .unset, .unset] [(.int (1 : Int32)), (.int (2 : Int32))])) _
      refine XS.icmpNo X243.here hx rfl (hb hby at_276) rfl (tlt (by decide)).2.2.2 ?_
      show Steps p.tables e below (T243.setTop (mkF m 279 #[.val (.int p1), .val (.int p2), .val (.int p3), .val (.int p4), .val (.int p5), .val (.int s0), .val (.int s1), .val (.int s2), .val (.int (2 : Int32)), .val (.int b0), .val (.int b1), .val (.int b2), .val (.int bp), .val (.int pr), .val (.ref b15), .val (.int fc), .val (.int (1 : Int32)), .val (.int (re2.getD (0 : Int32).toNatClampNeg 0)), .unset, .unset] [])) _
      refine XS.aload X243.here hx rfl (hb hby at_279) rfl rfl ?_
      show Steps p.tables e below (T243.setTop (mkF m 281 #[.val (.int p1), .val (.int p2), .val (.int p3), .val (.int p4), .val (.int p5), .val (.int s0), .val (.int s1), .val (.int s2), .val (.int (2 : Int32)), .val (.int b0), .val (.int b1), .val (.int b2), .val (.int bp), .val (.int pr), .val (.ref b15), .val (.int fc), .val (.int (1 : Int32)), .val (.int (re2.getD (0 : Int32).toNatClampNeg 0)), .unset, .unset] [(.ref b15)])) _
      refine XS.iconst X243.here hx rfl (hb hby at_281) ?_
      show Steps p.tables e below (T243.setTop (mkF m 282 #[.val (.int p1), .val (.int p2), .val (.int p3), .val (.int p4), .val (.int p5), .val (.int s0), .val (.int s1), .val (.int s2), .val (.int (2 : Int32)), .val (.int b0), .val (.int b1), .val (.int b2), .val (.int bp), .val (.int pr), .val (.ref b15), .val (.int fc), .val (.int (1 : Int32)), .val (.int (re2.getD (0 : Int32).toNatClampNeg 0)), .unset, .unset] [(.int (1 : Int32)), (.ref b15)])) _
      refine st244.trans ?_
      show Steps p.tables e below (T244.setTop (mkF m 285 #[.val (.int p1), .val (.int p2), .val (.int p3), .val (.int p4), .val (.int p5), .val (.int s0), .val (.int s1), .val (.int s2), .val (.int (2 : Int32)), .val (.int b0), .val (.int b1), .val (.int b2), .val (.int bp), .val (.int pr), .val (.ref b15), .val (.int fc), .val (.int (1 : Int32)), .val (.int (re2.getD (0 : Int32).toNatClampNeg 0)), .unset, .unset] [(.int (re2.getD (1 : Int32).toNatClampNeg 0))])) _
      refine XS.goto X244.here hx rfl (pc0 := 285) (pc' := 289) rfl (hb hby at_285) (by decide) (by decide) ?_
      show Steps p.tables e below (T244.setTop (mkF m 289 #[.val (.int p1), .val (.int p2), .val (.int p3), .val (.int p4), .val (.int p5), .val (.int s0), .val (.int s1), .val (.int s2), .val (.int (2 : Int32)), .val (.int b0), .val (.int b1), .val (.int b2), .val (.int bp), .val (.int pr), .val (.ref b15), .val (.int fc), .val (.int (1 : Int32)), .val (.int (re2.getD (0 : Int32).toNatClampNeg 0)), .unset, .unset] [(.int (re2.getD (1 : Int32).toNatClampNeg 0))])) _
      refine XS.istore X244.here hx rfl (hb hby at_289) rfl (l' := #[.val (.int p1), .val (.int p2), .val (.int p3), .val (.int p4), .val (.int p5), .val (.int s0), .val (.int s1), .val (.int s2), .val (.int (2 : Int32)), .val (.int b0), .val (.int b1), .val (.int b2), .val (.int bp), .val (.int pr), .val (.ref b15), .val (.int fc), .val (.int (1 : Int32)), .val (.int (re2.getD (0 : Int32).toNatClampNeg 0)), .val (.int (re2.getD (1 : Int32).toNatClampNeg 0)), .unset]) rfl ?_
      show Steps p.tables e below (T244.setTop (mkF m 291 #[.val (.int p1), .val (.int p2), .val (.int p3), .val (.int p4), .val (.int p5), .val (.int s0), .val (.int s1), .val (.int s2), .val (.int (2 : Int32)), .val (.int b0), .val (.int b1), .val (.int b2), .val (.int bp), .val (.int pr), .val (.ref b15), .val (.int fc), .val (.int (1 : Int32)), .val (.int (re2.getD (0 : Int32).toNatClampNeg 0)), .val (.int (re2.getD (1 : Int32).toNatClampNeg 0)), .unset] [])) _
      refine XS.iload X244.here hx rfl (hb hby at_291) rfl ?_
      show Steps p.tables e below (T244.setTop (mkF m 293 #[.val (.int p1), .val (.int p2), .val (.int p3), .val (.int p4), .val (.int p5), .val (.int s0), .val (.int s1), .val (.int s2), .val (.int (2 : Int32)), .val (.int b0), .val (.int b1), .val (.int b2), .val (.int bp), .val (.int pr), .val (.ref b15), .val (.int fc), .val (.int (1 : Int32)), .val (.int (re2.getD (0 : Int32).toNatClampNeg 0)), .val (.int (re2.getD (1 : Int32).toNatClampNeg 0)), .unset] [(.int (2 : Int32))])) _
      refine XS.iconst X244.here hx rfl (hb hby at_293) ?_
      show Steps p.tables e below (T244.setTop (mkF m 294 #[.val (.int p1), .val (.int p2), .val (.int p3), .val (.int p4), .val (.int p5), .val (.int s0), .val (.int s1), .val (.int s2), .val (.int (2 : Int32)), .val (.int b0), .val (.int b1), .val (.int b2), .val (.int bp), .val (.int pr), .val (.ref b15), .val (.int fc), .val (.int (1 : Int32)), .val (.int (re2.getD (0 : Int32).toNatClampNeg 0)), .val (.int (re2.getD (1 : Int32).toNatClampNeg 0)), .unset] [(.int (2 : Int32)), (.int (2 : Int32))])) _
      refine XS.icmpYes X244.here hx rfl (pc0 := 294) (pc' := 306) rfl (hb hby at_294) rfl (flt (by decide)).2.2.2 (by decide) (by decide) ?_
      show Steps p.tables e below (T244.setTop (mkF m 306 #[.val (.int p1), .val (.int p2), .val (.int p3), .val (.int p4), .val (.int p5), .val (.int s0), .val (.int s1), .val (.int s2), .val (.int (2 : Int32)), .val (.int b0), .val (.int b1), .val (.int b2), .val (.int bp), .val (.int pr), .val (.ref b15), .val (.int fc), .val (.int (1 : Int32)), .val (.int (re2.getD (0 : Int32).toNatClampNeg 0)), .val (.int (re2.getD (1 : Int32).toNatClampNeg 0)), .unset] [])) _
      refine XS.iconst X244.here hx rfl (hb hby at_306) ?_
      show Steps p.tables e below (T244.setTop (mkF m 307 #[.val (.int p1), .val (.int p2), .val (.int p3), .val (.int p4), .val (.int p5), .val (.int s0), .val (.int s1), .val (.int s2), .val (.int (2 : Int32)), .val (.int b0), .val (.int b1), .val (.int b2), .val (.int bp), .val (.int pr), .val (.ref b15), .val (.int fc), .val (.int (1 : Int32)), .val (.int (re2.getD (0 : Int32).toNatClampNeg 0)), .val (.int (re2.getD (1 : Int32).toNatClampNeg 0)), .unset] [(.int (-1 : Int32))])) _
      refine XS.istore X244.here hx rfl (hb hby at_307) rfl (l' := #[.val (.int p1), .val (.int p2), .val (.int p3), .val (.int p4), .val (.int p5), .val (.int s0), .val (.int s1), .val (.int s2), .val (.int (2 : Int32)), .val (.int b0), .val (.int b1), .val (.int b2), .val (.int bp), .val (.int pr), .val (.ref b15), .val (.int fc), .val (.int (1 : Int32)), .val (.int (re2.getD (0 : Int32).toNatClampNeg 0)), .val (.int (re2.getD (1 : Int32).toNatClampNeg 0)), .val (.int (-1 : Int32))]) rfl ?_
      show Steps p.tables e below (T244.setTop (mkF m 309 #[.val (.int p1), .val (.int p2), .val (.int p3), .val (.int p4), .val (.int p5), .val (.int s0), .val (.int s1), .val (.int s2), .val (.int (2 : Int32)), .val (.int b0), .val (.int b1), .val (.int b2), .val (.int bp), .val (.int pr), .val (.ref b15), .val (.int fc), .val (.int (1 : Int32)), .val (.int (re2.getD (0 : Int32).toNatClampNeg 0)), .val (.int (re2.getD (1 : Int32).toNatClampNeg 0)), .val (.int (-1 : Int32))] [])) _
      refine XS.iload X244.here hx rfl (hb hby at_309) rfl ?_
      show Steps p.tables e below (T244.setTop (mkF m 311 #[.val (.int p1), .val (.int p2), .val (.int p3), .val (.int p4), .val (.int p5), .val (.int s0), .val (.int s1), .val (.int s2), .val (.int (2 : Int32)), .val (.int b0), .val (.int b1), .val (.int b2), .val (.int bp), .val (.int pr), .val (.ref b15), .val (.int fc), .val (.int (1 : Int32)), .val (.int (re2.getD (0 : Int32).toNatClampNeg 0)), .val (.int (re2.getD (1 : Int32).toNatClampNeg 0)), .val (.int (-1 : Int32))] [(.int (1 : Int32))])) _
      refine XS.ifNo X244.here hx rfl (hb hby at_311) rfl ((if0 _ _).trans (feq (by decide)).1) ?_
      show Steps p.tables e below (T244.setTop (mkF m 314 #[.val (.int p1), .val (.int p2), .val (.int p3), .val (.int p4), .val (.int p5), .val (.int s0), .val (.int s1), .val (.int s2), .val (.int (2 : Int32)), .val (.int b0), .val (.int b1), .val (.int b2), .val (.int bp), .val (.int pr), .val (.ref b15), .val (.int fc), .val (.int (1 : Int32)), .val (.int (re2.getD (0 : Int32).toNatClampNeg 0)), .val (.int (re2.getD (1 : Int32).toNatClampNeg 0)), .val (.int (-1 : Int32))] [])) _
      refine XS.iconst X244.here hx rfl (hb hby at_314) ?_
      show Steps p.tables e below (T244.setTop (mkF m 315 #[.val (.int p1), .val (.int p2), .val (.int p3), .val (.int p4), .val (.int p5), .val (.int s0), .val (.int s1), .val (.int s2), .val (.int (2 : Int32)), .val (.int b0), .val (.int b1), .val (.int b2), .val (.int bp), .val (.int pr), .val (.ref b15), .val (.int fc), .val (.int (1 : Int32)), .val (.int (re2.getD (0 : Int32).toNatClampNeg 0)), .val (.int (re2.getD (1 : Int32).toNatClampNeg 0)), .val (.int (-1 : Int32))] [(.int (0 : Int32))])) _
      refine XS.iload X244.here hx rfl (hb hby at_315) rfl ?_
      show Steps p.tables e below (T244.setTop (mkF m 317 #[.val (.int p1), .val (.int p2), .val (.int p3), .val (.int p4), .val (.int p5), .val (.int s0), .val (.int s1), .val (.int s2), .val (.int (2 : Int32)), .val (.int b0), .val (.int b1), .val (.int b2), .val (.int bp), .val (.int pr), .val (.ref b15), .val (.int fc), .val (.int (1 : Int32)), .val (.int (re2.getD (0 : Int32).toNatClampNeg 0)), .val (.int (re2.getD (1 : Int32).toNatClampNeg 0)), .val (.int (-1 : Int32))] [(.int (re2.getD (0 : Int32).toNatClampNeg 0)), (.int (0 : Int32))])) _
      refine XS.iload X244.here hx rfl (hb hby at_317) rfl ?_
      show Steps p.tables e below (T244.setTop (mkF m 319 #[.val (.int p1), .val (.int p2), .val (.int p3), .val (.int p4), .val (.int p5), .val (.int s0), .val (.int s1), .val (.int s2), .val (.int (2 : Int32)), .val (.int b0), .val (.int b1), .val (.int b2), .val (.int bp), .val (.int pr), .val (.ref b15), .val (.int fc), .val (.int (1 : Int32)), .val (.int (re2.getD (0 : Int32).toNatClampNeg 0)), .val (.int (re2.getD (1 : Int32).toNatClampNeg 0)), .val (.int (-1 : Int32))] [(.int (2 : Int32)), (.int (re2.getD (0 : Int32).toNatClampNeg 0)), (.int (0 : Int32))])) _
      refine XS.iload X244.here hx rfl (hb hby at_319) rfl ?_
      show Steps p.tables e below (T244.setTop (mkF m 321 #[.val (.int p1), .val (.int p2), .val (.int p3), .val (.int p4), .val (.int p5), .val (.int s0), .val (.int s1), .val (.int s2), .val (.int (2 : Int32)), .val (.int b0), .val (.int b1), .val (.int b2), .val (.int bp), .val (.int pr), .val (.ref b15), .val (.int fc), .val (.int (1 : Int32)), .val (.int (re2.getD (0 : Int32).toNatClampNeg 0)), .val (.int (re2.getD (1 : Int32).toNatClampNeg 0)), .val (.int (-1 : Int32))] [(.int fc), (.int (2 : Int32)), (.int (re2.getD (0 : Int32).toNatClampNeg 0)), (.int (0 : Int32))])) _
      refine XS.iload X244.here hx rfl (hb hby at_321) rfl ?_
      show Steps p.tables e below (T244.setTop (mkF m 323 #[.val (.int p1), .val (.int p2), .val (.int p3), .val (.int p4), .val (.int p5), .val (.int s0), .val (.int s1), .val (.int s2), .val (.int (2 : Int32)), .val (.int b0), .val (.int b1), .val (.int b2), .val (.int bp), .val (.int pr), .val (.ref b15), .val (.int fc), .val (.int (1 : Int32)), .val (.int (re2.getD (0 : Int32).toNatClampNeg 0)), .val (.int (re2.getD (1 : Int32).toNatClampNeg 0)), .val (.int (-1 : Int32))] [(.int s0), (.int fc), (.int (2 : Int32)), (.int (re2.getD (0 : Int32).toNatClampNeg 0)), (.int (0 : Int32))])) _
      refine XS.iload X244.here hx rfl (hb hby at_323) rfl ?_
      show Steps p.tables e below (T244.setTop (mkF m 325 #[.val (.int p1), .val (.int p2), .val (.int p3), .val (.int p4), .val (.int p5), .val (.int s0), .val (.int s1), .val (.int s2), .val (.int (2 : Int32)), .val (.int b0), .val (.int b1), .val (.int b2), .val (.int bp), .val (.int pr), .val (.ref b15), .val (.int fc), .val (.int (1 : Int32)), .val (.int (re2.getD (0 : Int32).toNatClampNeg 0)), .val (.int (re2.getD (1 : Int32).toNatClampNeg 0)), .val (.int (-1 : Int32))] [(.int s1), (.int s0), (.int fc), (.int (2 : Int32)), (.int (re2.getD (0 : Int32).toNatClampNeg 0)), (.int (0 : Int32))])) _
      refine XS.iload X244.here hx rfl (hb hby at_325) rfl ?_
      show Steps p.tables e below (T244.setTop (mkF m 327 #[.val (.int p1), .val (.int p2), .val (.int p3), .val (.int p4), .val (.int p5), .val (.int s0), .val (.int s1), .val (.int s2), .val (.int (2 : Int32)), .val (.int b0), .val (.int b1), .val (.int b2), .val (.int bp), .val (.int pr), .val (.ref b15), .val (.int fc), .val (.int (1 : Int32)), .val (.int (re2.getD (0 : Int32).toNatClampNeg 0)), .val (.int (re2.getD (1 : Int32).toNatClampNeg 0)), .val (.int (-1 : Int32))] [(.int s2), (.int s1), (.int s0), (.int fc), (.int (2 : Int32)), (.int (re2.getD (0 : Int32).toNatClampNeg 0)), (.int (0 : Int32))])) _
      refine XS.iloadN X244.here hx rfl (hb hby at_327) rfl ?_
      show Steps p.tables e below (T244.setTop (mkF m 328 #[.val (.int p1), .val (.int p2), .val (.int p3), .val (.int p4), .val (.int p5), .val (.int s0), .val (.int s1), .val (.int s2), .val (.int (2 : Int32)), .val (.int b0), .val (.int b1), .val (.int b2), .val (.int bp), .val (.int pr), .val (.ref b15), .val (.int fc), .val (.int (1 : Int32)), .val (.int (re2.getD (0 : Int32).toNatClampNeg 0)), .val (.int (re2.getD (1 : Int32).toNatClampNeg 0)), .val (.int (-1 : Int32))] [(.int p4), (.int s2), (.int s1), (.int s0), (.int fc), (.int (2 : Int32)), (.int (re2.getD (0 : Int32).toNatClampNeg 0)), (.int (0 : Int32))])) _
      refine st245 _ ?_
      show Steps p.tables e below (T245.setTop (mkF m 331 #[.val (.int p1), .val (.int p2), .val (.int p3), .val (.int p4), .val (.int p5), .val (.int s0), .val (.int s1), .val (.int s2), .val (.int (2 : Int32)), .val (.int b0), .val (.int b1), .val (.int b2), .val (.int bp), .val (.int pr), .val (.ref b15), .val (.int fc), .val (.int (1 : Int32)), .val (.int (re2.getD (0 : Int32).toNatClampNeg 0)), .val (.int (re2.getD (1 : Int32).toNatClampNeg 0)), .val (.int (-1 : Int32))] [(.int (own_place (0 : Int32) (re2.getD (0 : Int32).toNatClampNeg 0) (2 : Int32) fc s0 s1 s2 p4))])) _
      refine XS.ifNo X245.here hx rfl (hb hby at_331) rfl ((if0 _ _).trans (feq (by rw [pl0]; decide)).1) ?_
      show Steps p.tables e below (T245.setTop (mkF m 334 #[.val (.int p1), .val (.int p2), .val (.int p3), .val (.int p4), .val (.int p5), .val (.int s0), .val (.int s1), .val (.int s2), .val (.int (2 : Int32)), .val (.int b0), .val (.int b1), .val (.int b2), .val (.int bp), .val (.int pr), .val (.ref b15), .val (.int fc), .val (.int (1 : Int32)), .val (.int (re2.getD (0 : Int32).toNatClampNeg 0)), .val (.int (re2.getD (1 : Int32).toNatClampNeg 0)), .val (.int (-1 : Int32))] [])) _
      refine XS.iconst X245.here hx rfl (hb hby at_334) ?_
      show Steps p.tables e below (T245.setTop (mkF m 335 #[.val (.int p1), .val (.int p2), .val (.int p3), .val (.int p4), .val (.int p5), .val (.int s0), .val (.int s1), .val (.int s2), .val (.int (2 : Int32)), .val (.int b0), .val (.int b1), .val (.int b2), .val (.int bp), .val (.int pr), .val (.ref b15), .val (.int fc), .val (.int (1 : Int32)), .val (.int (re2.getD (0 : Int32).toNatClampNeg 0)), .val (.int (re2.getD (1 : Int32).toNatClampNeg 0)), .val (.int (-1 : Int32))] [(.int (1 : Int32))])) _
      refine XS.goto X245.here hx rfl (pc0 := 335) (pc' := 339) rfl (hb hby at_335) (by decide) (by decide) ?_
      show Steps p.tables e below (T245.setTop (mkF m 339 #[.val (.int p1), .val (.int p2), .val (.int p3), .val (.int p4), .val (.int p5), .val (.int s0), .val (.int s1), .val (.int s2), .val (.int (2 : Int32)), .val (.int b0), .val (.int b1), .val (.int b2), .val (.int bp), .val (.int pr), .val (.ref b15), .val (.int fc), .val (.int (1 : Int32)), .val (.int (re2.getD (0 : Int32).toNatClampNeg 0)), .val (.int (re2.getD (1 : Int32).toNatClampNeg 0)), .val (.int (-1 : Int32))] [(.int (1 : Int32))])) _
      refine XS.istore X245.here hx rfl (hb hby at_339) rfl (l' := #[.val (.int p1), .val (.int p2), .val (.int p3), .val (.int p4), .val (.int p5), .val (.int s0), .val (.int s1), .val (.int s2), .val (.int (2 : Int32)), .val (.int b0), .val (.int b1), .val (.int b2), .val (.int bp), .val (.int pr), .val (.ref b15), .val (.int fc), .val (.int (1 : Int32)), .val (.int (re2.getD (0 : Int32).toNatClampNeg 0)), .val (.int (re2.getD (1 : Int32).toNatClampNeg 0)), .val (.int (-1 : Int32))]) rfl ?_
      show Steps p.tables e below (T245.setTop (mkF m 341 #[.val (.int p1), .val (.int p2), .val (.int p3), .val (.int p4), .val (.int p5), .val (.int s0), .val (.int s1), .val (.int s2), .val (.int (2 : Int32)), .val (.int b0), .val (.int b1), .val (.int b2), .val (.int bp), .val (.int pr), .val (.ref b15), .val (.int fc), .val (.int (1 : Int32)), .val (.int (re2.getD (0 : Int32).toNatClampNeg 0)), .val (.int (re2.getD (1 : Int32).toNatClampNeg 0)), .val (.int (-1 : Int32))] [])) _
      refine XS.iload X245.here hx rfl (hb hby at_341) rfl ?_
      show Steps p.tables e below (T245.setTop (mkF m 343 #[.val (.int p1), .val (.int p2), .val (.int p3), .val (.int p4), .val (.int p5), .val (.int s0), .val (.int s1), .val (.int s2), .val (.int (2 : Int32)), .val (.int b0), .val (.int b1), .val (.int b2), .val (.int bp), .val (.int pr), .val (.ref b15), .val (.int fc), .val (.int (1 : Int32)), .val (.int (re2.getD (0 : Int32).toNatClampNeg 0)), .val (.int (re2.getD (1 : Int32).toNatClampNeg 0)), .val (.int (-1 : Int32))] [(.int (1 : Int32))])) _
      refine XS.ifNo X245.here hx rfl (hb hby at_343) rfl ((if0 _ _).trans (feq (by decide)).1) ?_
      show Steps p.tables e below (T245.setTop (mkF m 346 #[.val (.int p1), .val (.int p2), .val (.int p3), .val (.int p4), .val (.int p5), .val (.int s0), .val (.int s1), .val (.int s2), .val (.int (2 : Int32)), .val (.int b0), .val (.int b1), .val (.int b2), .val (.int bp), .val (.int pr), .val (.ref b15), .val (.int fc), .val (.int (1 : Int32)), .val (.int (re2.getD (0 : Int32).toNatClampNeg 0)), .val (.int (re2.getD (1 : Int32).toNatClampNeg 0)), .val (.int (-1 : Int32))] [])) _
      refine XS.iconst X245.here hx rfl (hb hby at_346) ?_
      show Steps p.tables e below (T245.setTop (mkF m 347 #[.val (.int p1), .val (.int p2), .val (.int p3), .val (.int p4), .val (.int p5), .val (.int s0), .val (.int s1), .val (.int s2), .val (.int (2 : Int32)), .val (.int b0), .val (.int b1), .val (.int b2), .val (.int bp), .val (.int pr), .val (.ref b15), .val (.int fc), .val (.int (1 : Int32)), .val (.int (re2.getD (0 : Int32).toNatClampNeg 0)), .val (.int (re2.getD (1 : Int32).toNatClampNeg 0)), .val (.int (-1 : Int32))] [(.int (1 : Int32))])) _
      refine XS.iload X245.here hx rfl (hb hby at_347) rfl ?_
      show Steps p.tables e below (T245.setTop (mkF m 349 #[.val (.int p1), .val (.int p2), .val (.int p3), .val (.int p4), .val (.int p5), .val (.int s0), .val (.int s1), .val (.int s2), .val (.int (2 : Int32)), .val (.int b0), .val (.int b1), .val (.int b2), .val (.int bp), .val (.int pr), .val (.ref b15), .val (.int fc), .val (.int (1 : Int32)), .val (.int (re2.getD (0 : Int32).toNatClampNeg 0)), .val (.int (re2.getD (1 : Int32).toNatClampNeg 0)), .val (.int (-1 : Int32))] [(.int (re2.getD (1 : Int32).toNatClampNeg 0)), (.int (1 : Int32))])) _
      refine XS.iload X245.here hx rfl (hb hby at_349) rfl ?_
      show Steps p.tables e below (T245.setTop (mkF m 351 #[.val (.int p1), .val (.int p2), .val (.int p3), .val (.int p4), .val (.int p5), .val (.int s0), .val (.int s1), .val (.int s2), .val (.int (2 : Int32)), .val (.int b0), .val (.int b1), .val (.int b2), .val (.int bp), .val (.int pr), .val (.ref b15), .val (.int fc), .val (.int (1 : Int32)), .val (.int (re2.getD (0 : Int32).toNatClampNeg 0)), .val (.int (re2.getD (1 : Int32).toNatClampNeg 0)), .val (.int (-1 : Int32))] [(.int (2 : Int32)), (.int (re2.getD (1 : Int32).toNatClampNeg 0)), (.int (1 : Int32))])) _
      refine XS.iload X245.here hx rfl (hb hby at_351) rfl ?_
      show Steps p.tables e below (T245.setTop (mkF m 353 #[.val (.int p1), .val (.int p2), .val (.int p3), .val (.int p4), .val (.int p5), .val (.int s0), .val (.int s1), .val (.int s2), .val (.int (2 : Int32)), .val (.int b0), .val (.int b1), .val (.int b2), .val (.int bp), .val (.int pr), .val (.ref b15), .val (.int fc), .val (.int (1 : Int32)), .val (.int (re2.getD (0 : Int32).toNatClampNeg 0)), .val (.int (re2.getD (1 : Int32).toNatClampNeg 0)), .val (.int (-1 : Int32))] [(.int fc), (.int (2 : Int32)), (.int (re2.getD (1 : Int32).toNatClampNeg 0)), (.int (1 : Int32))])) _
      refine XS.iload X245.here hx rfl (hb hby at_353) rfl ?_
      show Steps p.tables e below (T245.setTop (mkF m 355 #[.val (.int p1), .val (.int p2), .val (.int p3), .val (.int p4), .val (.int p5), .val (.int s0), .val (.int s1), .val (.int s2), .val (.int (2 : Int32)), .val (.int b0), .val (.int b1), .val (.int b2), .val (.int bp), .val (.int pr), .val (.ref b15), .val (.int fc), .val (.int (1 : Int32)), .val (.int (re2.getD (0 : Int32).toNatClampNeg 0)), .val (.int (re2.getD (1 : Int32).toNatClampNeg 0)), .val (.int (-1 : Int32))] [(.int s0), (.int fc), (.int (2 : Int32)), (.int (re2.getD (1 : Int32).toNatClampNeg 0)), (.int (1 : Int32))])) _
      refine XS.iload X245.here hx rfl (hb hby at_355) rfl ?_
      show Steps p.tables e below (T245.setTop (mkF m 357 #[.val (.int p1), .val (.int p2), .val (.int p3), .val (.int p4), .val (.int p5), .val (.int s0), .val (.int s1), .val (.int s2), .val (.int (2 : Int32)), .val (.int b0), .val (.int b1), .val (.int b2), .val (.int bp), .val (.int pr), .val (.ref b15), .val (.int fc), .val (.int (1 : Int32)), .val (.int (re2.getD (0 : Int32).toNatClampNeg 0)), .val (.int (re2.getD (1 : Int32).toNatClampNeg 0)), .val (.int (-1 : Int32))] [(.int s1), (.int s0), (.int fc), (.int (2 : Int32)), (.int (re2.getD (1 : Int32).toNatClampNeg 0)), (.int (1 : Int32))])) _
      refine XS.iload X245.here hx rfl (hb hby at_357) rfl ?_
      show Steps p.tables e below (T245.setTop (mkF m 359 #[.val (.int p1), .val (.int p2), .val (.int p3), .val (.int p4), .val (.int p5), .val (.int s0), .val (.int s1), .val (.int s2), .val (.int (2 : Int32)), .val (.int b0), .val (.int b1), .val (.int b2), .val (.int bp), .val (.int pr), .val (.ref b15), .val (.int fc), .val (.int (1 : Int32)), .val (.int (re2.getD (0 : Int32).toNatClampNeg 0)), .val (.int (re2.getD (1 : Int32).toNatClampNeg 0)), .val (.int (-1 : Int32))] [(.int s2), (.int s1), (.int s0), (.int fc), (.int (2 : Int32)), (.int (re2.getD (1 : Int32).toNatClampNeg 0)), (.int (1 : Int32))])) _
      refine XS.iloadN X245.here hx rfl (hb hby at_359) rfl ?_
      show Steps p.tables e below (T245.setTop (mkF m 360 #[.val (.int p1), .val (.int p2), .val (.int p3), .val (.int p4), .val (.int p5), .val (.int s0), .val (.int s1), .val (.int s2), .val (.int (2 : Int32)), .val (.int b0), .val (.int b1), .val (.int b2), .val (.int bp), .val (.int pr), .val (.ref b15), .val (.int fc), .val (.int (1 : Int32)), .val (.int (re2.getD (0 : Int32).toNatClampNeg 0)), .val (.int (re2.getD (1 : Int32).toNatClampNeg 0)), .val (.int (-1 : Int32))] [(.int p4), (.int s2), (.int s1), (.int s0), (.int fc), (.int (2 : Int32)), (.int (re2.getD (1 : Int32).toNatClampNeg 0)), (.int (1 : Int32))])) _
      refine st246 _ ?_
      show Steps p.tables e below (T246.setTop (mkF m 363 #[.val (.int p1), .val (.int p2), .val (.int p3), .val (.int p4), .val (.int p5), .val (.int s0), .val (.int s1), .val (.int s2), .val (.int (2 : Int32)), .val (.int b0), .val (.int b1), .val (.int b2), .val (.int bp), .val (.int pr), .val (.ref b15), .val (.int fc), .val (.int (1 : Int32)), .val (.int (re2.getD (0 : Int32).toNatClampNeg 0)), .val (.int (re2.getD (1 : Int32).toNatClampNeg 0)), .val (.int (-1 : Int32))] [(.int (own_place (1 : Int32) (re2.getD (1 : Int32).toNatClampNeg 0) (2 : Int32) fc s0 s1 s2 p4))])) _
      refine XS.ifNo X246.here hx rfl (hb hby at_363) rfl ((if0 _ _).trans (feq (by rw [pl1]; decide)).1) ?_
      show Steps p.tables e below (T246.setTop (mkF m 366 #[.val (.int p1), .val (.int p2), .val (.int p3), .val (.int p4), .val (.int p5), .val (.int s0), .val (.int s1), .val (.int s2), .val (.int (2 : Int32)), .val (.int b0), .val (.int b1), .val (.int b2), .val (.int bp), .val (.int pr), .val (.ref b15), .val (.int fc), .val (.int (1 : Int32)), .val (.int (re2.getD (0 : Int32).toNatClampNeg 0)), .val (.int (re2.getD (1 : Int32).toNatClampNeg 0)), .val (.int (-1 : Int32))] [])) _
      refine XS.iconst X246.here hx rfl (hb hby at_366) ?_
      show Steps p.tables e below (T246.setTop (mkF m 367 #[.val (.int p1), .val (.int p2), .val (.int p3), .val (.int p4), .val (.int p5), .val (.int s0), .val (.int s1), .val (.int s2), .val (.int (2 : Int32)), .val (.int b0), .val (.int b1), .val (.int b2), .val (.int bp), .val (.int pr), .val (.ref b15), .val (.int fc), .val (.int (1 : Int32)), .val (.int (re2.getD (0 : Int32).toNatClampNeg 0)), .val (.int (re2.getD (1 : Int32).toNatClampNeg 0)), .val (.int (-1 : Int32))] [(.int (1 : Int32))])) _
      refine XS.goto X246.here hx rfl (pc0 := 367) (pc' := 371) rfl (hb hby at_367) (by decide) (by decide) ?_
      show Steps p.tables e below (T246.setTop (mkF m 371 #[.val (.int p1), .val (.int p2), .val (.int p3), .val (.int p4), .val (.int p5), .val (.int s0), .val (.int s1), .val (.int s2), .val (.int (2 : Int32)), .val (.int b0), .val (.int b1), .val (.int b2), .val (.int bp), .val (.int pr), .val (.ref b15), .val (.int fc), .val (.int (1 : Int32)), .val (.int (re2.getD (0 : Int32).toNatClampNeg 0)), .val (.int (re2.getD (1 : Int32).toNatClampNeg 0)), .val (.int (-1 : Int32))] [(.int (1 : Int32))])) _
      refine XS.istore X246.here hx rfl (hb hby at_371) rfl (l' := #[.val (.int p1), .val (.int p2), .val (.int p3), .val (.int p4), .val (.int p5), .val (.int s0), .val (.int s1), .val (.int s2), .val (.int (2 : Int32)), .val (.int b0), .val (.int b1), .val (.int b2), .val (.int bp), .val (.int pr), .val (.ref b15), .val (.int fc), .val (.int (1 : Int32)), .val (.int (re2.getD (0 : Int32).toNatClampNeg 0)), .val (.int (re2.getD (1 : Int32).toNatClampNeg 0)), .val (.int (-1 : Int32))]) rfl ?_
      show Steps p.tables e below (T246.setTop (mkF m 373 #[.val (.int p1), .val (.int p2), .val (.int p3), .val (.int p4), .val (.int p5), .val (.int s0), .val (.int s1), .val (.int s2), .val (.int (2 : Int32)), .val (.int b0), .val (.int b1), .val (.int b2), .val (.int bp), .val (.int pr), .val (.ref b15), .val (.int fc), .val (.int (1 : Int32)), .val (.int (re2.getD (0 : Int32).toNatClampNeg 0)), .val (.int (re2.getD (1 : Int32).toNatClampNeg 0)), .val (.int (-1 : Int32))] [])) _
      refine XS.iload X246.here hx rfl (hb hby at_373) rfl ?_
      show Steps p.tables e below (T246.setTop (mkF m 375 #[.val (.int p1), .val (.int p2), .val (.int p3), .val (.int p4), .val (.int p5), .val (.int s0), .val (.int s1), .val (.int s2), .val (.int (2 : Int32)), .val (.int b0), .val (.int b1), .val (.int b2), .val (.int bp), .val (.int pr), .val (.ref b15), .val (.int fc), .val (.int (1 : Int32)), .val (.int (re2.getD (0 : Int32).toNatClampNeg 0)), .val (.int (re2.getD (1 : Int32).toNatClampNeg 0)), .val (.int (-1 : Int32))] [(.int (1 : Int32))])) _
      refine XS.ifNo X246.here hx rfl (hb hby at_375) rfl ((if0 _ _).trans (feq (by decide)).1) ?_
      show Steps p.tables e below (T246.setTop (mkF m 378 #[.val (.int p1), .val (.int p2), .val (.int p3), .val (.int p4), .val (.int p5), .val (.int s0), .val (.int s1), .val (.int s2), .val (.int (2 : Int32)), .val (.int b0), .val (.int b1), .val (.int b2), .val (.int bp), .val (.int pr), .val (.ref b15), .val (.int fc), .val (.int (1 : Int32)), .val (.int (re2.getD (0 : Int32).toNatClampNeg 0)), .val (.int (re2.getD (1 : Int32).toNatClampNeg 0)), .val (.int (-1 : Int32))] [])) _
      refine XS.iconst X246.here hx rfl (hb hby at_378) ?_
      show Steps p.tables e below (T246.setTop (mkF m 379 #[.val (.int p1), .val (.int p2), .val (.int p3), .val (.int p4), .val (.int p5), .val (.int s0), .val (.int s1), .val (.int s2), .val (.int (2 : Int32)), .val (.int b0), .val (.int b1), .val (.int b2), .val (.int bp), .val (.int pr), .val (.ref b15), .val (.int fc), .val (.int (1 : Int32)), .val (.int (re2.getD (0 : Int32).toNatClampNeg 0)), .val (.int (re2.getD (1 : Int32).toNatClampNeg 0)), .val (.int (-1 : Int32))] [(.int (2 : Int32))])) _
      refine XS.iload X246.here hx rfl (hb hby at_379) rfl ?_
      show Steps p.tables e below (T246.setTop (mkF m 381 #[.val (.int p1), .val (.int p2), .val (.int p3), .val (.int p4), .val (.int p5), .val (.int s0), .val (.int s1), .val (.int s2), .val (.int (2 : Int32)), .val (.int b0), .val (.int b1), .val (.int b2), .val (.int bp), .val (.int pr), .val (.ref b15), .val (.int fc), .val (.int (1 : Int32)), .val (.int (re2.getD (0 : Int32).toNatClampNeg 0)), .val (.int (re2.getD (1 : Int32).toNatClampNeg 0)), .val (.int (-1 : Int32))] [(.int (-1 : Int32)), (.int (2 : Int32))])) _
      refine XS.iload X246.here hx rfl (hb hby at_381) rfl ?_
      show Steps p.tables e below (T246.setTop (mkF m 383 #[.val (.int p1), .val (.int p2), .val (.int p3), .val (.int p4), .val (.int p5), .val (.int s0), .val (.int s1), .val (.int s2), .val (.int (2 : Int32)), .val (.int b0), .val (.int b1), .val (.int b2), .val (.int bp), .val (.int pr), .val (.ref b15), .val (.int fc), .val (.int (1 : Int32)), .val (.int (re2.getD (0 : Int32).toNatClampNeg 0)), .val (.int (re2.getD (1 : Int32).toNatClampNeg 0)), .val (.int (-1 : Int32))] [(.int (2 : Int32)), (.int (-1 : Int32)), (.int (2 : Int32))])) _
      refine XS.iload X246.here hx rfl (hb hby at_383) rfl ?_
      show Steps p.tables e below (T246.setTop (mkF m 385 #[.val (.int p1), .val (.int p2), .val (.int p3), .val (.int p4), .val (.int p5), .val (.int s0), .val (.int s1), .val (.int s2), .val (.int (2 : Int32)), .val (.int b0), .val (.int b1), .val (.int b2), .val (.int bp), .val (.int pr), .val (.ref b15), .val (.int fc), .val (.int (1 : Int32)), .val (.int (re2.getD (0 : Int32).toNatClampNeg 0)), .val (.int (re2.getD (1 : Int32).toNatClampNeg 0)), .val (.int (-1 : Int32))] [(.int fc), (.int (2 : Int32)), (.int (-1 : Int32)), (.int (2 : Int32))])) _
      refine XS.iload X246.here hx rfl (hb hby at_385) rfl ?_
      show Steps p.tables e below (T246.setTop (mkF m 387 #[.val (.int p1), .val (.int p2), .val (.int p3), .val (.int p4), .val (.int p5), .val (.int s0), .val (.int s1), .val (.int s2), .val (.int (2 : Int32)), .val (.int b0), .val (.int b1), .val (.int b2), .val (.int bp), .val (.int pr), .val (.ref b15), .val (.int fc), .val (.int (1 : Int32)), .val (.int (re2.getD (0 : Int32).toNatClampNeg 0)), .val (.int (re2.getD (1 : Int32).toNatClampNeg 0)), .val (.int (-1 : Int32))] [(.int s0), (.int fc), (.int (2 : Int32)), (.int (-1 : Int32)), (.int (2 : Int32))])) _
      refine XS.iload X246.here hx rfl (hb hby at_387) rfl ?_
      show Steps p.tables e below (T246.setTop (mkF m 389 #[.val (.int p1), .val (.int p2), .val (.int p3), .val (.int p4), .val (.int p5), .val (.int s0), .val (.int s1), .val (.int s2), .val (.int (2 : Int32)), .val (.int b0), .val (.int b1), .val (.int b2), .val (.int bp), .val (.int pr), .val (.ref b15), .val (.int fc), .val (.int (1 : Int32)), .val (.int (re2.getD (0 : Int32).toNatClampNeg 0)), .val (.int (re2.getD (1 : Int32).toNatClampNeg 0)), .val (.int (-1 : Int32))] [(.int s1), (.int s0), (.int fc), (.int (2 : Int32)), (.int (-1 : Int32)), (.int (2 : Int32))])) _
      refine XS.iload X246.here hx rfl (hb hby at_389) rfl ?_
      show Steps p.tables e below (T246.setTop (mkF m 391 #[.val (.int p1), .val (.int p2), .val (.int p3), .val (.int p4), .val (.int p5), .val (.int s0), .val (.int s1), .val (.int s2), .val (.int (2 : Int32)), .val (.int b0), .val (.int b1), .val (.int b2), .val (.int bp), .val (.int pr), .val (.ref b15), .val (.int fc), .val (.int (1 : Int32)), .val (.int (re2.getD (0 : Int32).toNatClampNeg 0)), .val (.int (re2.getD (1 : Int32).toNatClampNeg 0)), .val (.int (-1 : Int32))] [(.int s2), (.int s1), (.int s0), (.int fc), (.int (2 : Int32)), (.int (-1 : Int32)), (.int (2 : Int32))])) _
      refine XS.iloadN X246.here hx rfl (hb hby at_391) rfl ?_
      show Steps p.tables e below (T246.setTop (mkF m 392 #[.val (.int p1), .val (.int p2), .val (.int p3), .val (.int p4), .val (.int p5), .val (.int s0), .val (.int s1), .val (.int s2), .val (.int (2 : Int32)), .val (.int b0), .val (.int b1), .val (.int b2), .val (.int bp), .val (.int pr), .val (.ref b15), .val (.int fc), .val (.int (1 : Int32)), .val (.int (re2.getD (0 : Int32).toNatClampNeg 0)), .val (.int (re2.getD (1 : Int32).toNatClampNeg 0)), .val (.int (-1 : Int32))] [(.int p4), (.int s2), (.int s1), (.int s0), (.int fc), (.int (2 : Int32)), (.int (-1 : Int32)), (.int (2 : Int32))])) _
      refine st247 _ ?_
      show Steps p.tables e below (T247.setTop (mkF m 395 #[.val (.int p1), .val (.int p2), .val (.int p3), .val (.int p4), .val (.int p5), .val (.int s0), .val (.int s1), .val (.int s2), .val (.int (2 : Int32)), .val (.int b0), .val (.int b1), .val (.int b2), .val (.int bp), .val (.int pr), .val (.ref b15), .val (.int fc), .val (.int (1 : Int32)), .val (.int (re2.getD (0 : Int32).toNatClampNeg 0)), .val (.int (re2.getD (1 : Int32).toNatClampNeg 0)), .val (.int (-1 : Int32))] [(.int (own_place (2 : Int32) (-1 : Int32) (2 : Int32) fc s0 s1 s2 p4))])) _
      refine XS.ifNo X247.here hx rfl (hb hby at_395) rfl ((if0 _ _).trans (feq (by rw [pl2]; decide)).1) ?_
      show Steps p.tables e below (T247.setTop (mkF m 398 #[.val (.int p1), .val (.int p2), .val (.int p3), .val (.int p4), .val (.int p5), .val (.int s0), .val (.int s1), .val (.int s2), .val (.int (2 : Int32)), .val (.int b0), .val (.int b1), .val (.int b2), .val (.int bp), .val (.int pr), .val (.ref b15), .val (.int fc), .val (.int (1 : Int32)), .val (.int (re2.getD (0 : Int32).toNatClampNeg 0)), .val (.int (re2.getD (1 : Int32).toNatClampNeg 0)), .val (.int (-1 : Int32))] [])) _
      refine XS.iconst X247.here hx rfl (hb hby at_398) ?_
      show Steps p.tables e below (T247.setTop (mkF m 399 #[.val (.int p1), .val (.int p2), .val (.int p3), .val (.int p4), .val (.int p5), .val (.int s0), .val (.int s1), .val (.int s2), .val (.int (2 : Int32)), .val (.int b0), .val (.int b1), .val (.int b2), .val (.int bp), .val (.int pr), .val (.ref b15), .val (.int fc), .val (.int (1 : Int32)), .val (.int (re2.getD (0 : Int32).toNatClampNeg 0)), .val (.int (re2.getD (1 : Int32).toNatClampNeg 0)), .val (.int (-1 : Int32))] [(.int (1 : Int32))])) _
      refine XS.goto X247.here hx rfl (pc0 := 399) (pc' := 403) rfl (hb hby at_399) (by decide) (by decide) ?_
      show Steps p.tables e below (T247.setTop (mkF m 403 #[.val (.int p1), .val (.int p2), .val (.int p3), .val (.int p4), .val (.int p5), .val (.int s0), .val (.int s1), .val (.int s2), .val (.int (2 : Int32)), .val (.int b0), .val (.int b1), .val (.int b2), .val (.int bp), .val (.int pr), .val (.ref b15), .val (.int fc), .val (.int (1 : Int32)), .val (.int (re2.getD (0 : Int32).toNatClampNeg 0)), .val (.int (re2.getD (1 : Int32).toNatClampNeg 0)), .val (.int (-1 : Int32))] [(.int (1 : Int32))])) _
      refine XS.istore X247.here hx rfl (hb hby at_403) rfl (l' := #[.val (.int p1), .val (.int p2), .val (.int p3), .val (.int p4), .val (.int p5), .val (.int s0), .val (.int s1), .val (.int s2), .val (.int (2 : Int32)), .val (.int b0), .val (.int b1), .val (.int b2), .val (.int bp), .val (.int pr), .val (.ref b15), .val (.int fc), .val (.int (1 : Int32)), .val (.int (re2.getD (0 : Int32).toNatClampNeg 0)), .val (.int (re2.getD (1 : Int32).toNatClampNeg 0)), .val (.int (-1 : Int32))]) rfl ?_
      show Steps p.tables e below (T247.setTop (mkF m 405 #[.val (.int p1), .val (.int p2), .val (.int p3), .val (.int p4), .val (.int p5), .val (.int s0), .val (.int s1), .val (.int s2), .val (.int (2 : Int32)), .val (.int b0), .val (.int b1), .val (.int b2), .val (.int bp), .val (.int pr), .val (.ref b15), .val (.int fc), .val (.int (1 : Int32)), .val (.int (re2.getD (0 : Int32).toNatClampNeg 0)), .val (.int (re2.getD (1 : Int32).toNatClampNeg 0)), .val (.int (-1 : Int32))] [])) _
      refine XS.iload X247.here hx rfl (hb hby at_405) rfl ?_
      show Steps p.tables e below (T247.setTop (mkF m 407 #[.val (.int p1), .val (.int p2), .val (.int p3), .val (.int p4), .val (.int p5), .val (.int s0), .val (.int s1), .val (.int s2), .val (.int (2 : Int32)), .val (.int b0), .val (.int b1), .val (.int b2), .val (.int bp), .val (.int pr), .val (.ref b15), .val (.int fc), .val (.int (1 : Int32)), .val (.int (re2.getD (0 : Int32).toNatClampNeg 0)), .val (.int (re2.getD (1 : Int32).toNatClampNeg 0)), .val (.int (-1 : Int32))] [(.int (2 : Int32))])) _
      refine XS.iconst X247.here hx rfl (hb hby at_407) ?_
      show Steps p.tables e below (T247.setTop (mkF m 408 #[.val (.int p1), .val (.int p2), .val (.int p3), .val (.int p4), .val (.int p5), .val (.int s0), .val (.int s1), .val (.int s2), .val (.int (2 : Int32)), .val (.int b0), .val (.int b1), .val (.int b2), .val (.int bp), .val (.int pr), .val (.ref b15), .val (.int fc), .val (.int (1 : Int32)), .val (.int (re2.getD (0 : Int32).toNatClampNeg 0)), .val (.int (re2.getD (1 : Int32).toNatClampNeg 0)), .val (.int (-1 : Int32))] [(.int (1 : Int32)), (.int (2 : Int32))])) _
      refine XS.icmpNo X247.here hx rfl (hb hby at_408) rfl (tlt (by decide)).2.2.2 ?_
      show Steps p.tables e below (T247.setTop (mkF m 411 #[.val (.int p1), .val (.int p2), .val (.int p3), .val (.int p4), .val (.int p5), .val (.int s0), .val (.int s1), .val (.int s2), .val (.int (2 : Int32)), .val (.int b0), .val (.int b1), .val (.int b2), .val (.int bp), .val (.int pr), .val (.ref b15), .val (.int fc), .val (.int (1 : Int32)), .val (.int (re2.getD (0 : Int32).toNatClampNeg 0)), .val (.int (re2.getD (1 : Int32).toNatClampNeg 0)), .val (.int (-1 : Int32))] [])) _
      refine XS.iload X247.here hx rfl (hb hby at_411) rfl ?_
      show Steps p.tables e below (T247.setTop (mkF m 413 #[.val (.int p1), .val (.int p2), .val (.int p3), .val (.int p4), .val (.int p5), .val (.int s0), .val (.int s1), .val (.int s2), .val (.int (2 : Int32)), .val (.int b0), .val (.int b1), .val (.int b2), .val (.int bp), .val (.int pr), .val (.ref b15), .val (.int fc), .val (.int (1 : Int32)), .val (.int (re2.getD (0 : Int32).toNatClampNeg 0)), .val (.int (re2.getD (1 : Int32).toNatClampNeg 0)), .val (.int (-1 : Int32))] [(.int (1 : Int32))])) _
      refine XS.ifNo X247.here hx rfl (hb hby at_413) rfl ((if0 _ _).trans (feq (by decide)).1) ?_
      show Steps p.tables e below (T247.setTop (mkF m 416 #[.val (.int p1), .val (.int p2), .val (.int p3), .val (.int p4), .val (.int p5), .val (.int s0), .val (.int s1), .val (.int s2), .val (.int (2 : Int32)), .val (.int b0), .val (.int b1), .val (.int b2), .val (.int bp), .val (.int pr), .val (.ref b15), .val (.int fc), .val (.int (1 : Int32)), .val (.int (re2.getD (0 : Int32).toNatClampNeg 0)), .val (.int (re2.getD (1 : Int32).toNatClampNeg 0)), .val (.int (-1 : Int32))] [])) _
      refine XS.iload X247.here hx rfl (hb hby at_416) rfl ?_
      show Steps p.tables e below (T247.setTop (mkF m 418 #[.val (.int p1), .val (.int p2), .val (.int p3), .val (.int p4), .val (.int p5), .val (.int s0), .val (.int s1), .val (.int s2), .val (.int (2 : Int32)), .val (.int b0), .val (.int b1), .val (.int b2), .val (.int bp), .val (.int pr), .val (.ref b15), .val (.int fc), .val (.int (1 : Int32)), .val (.int (re2.getD (0 : Int32).toNatClampNeg 0)), .val (.int (re2.getD (1 : Int32).toNatClampNeg 0)), .val (.int (-1 : Int32))] [(.int (re2.getD (0 : Int32).toNatClampNeg 0))])) _
      refine XS.iload X247.here hx rfl (hb hby at_418) rfl ?_
      show Steps p.tables e below (T247.setTop (mkF m 420 #[.val (.int p1), .val (.int p2), .val (.int p3), .val (.int p4), .val (.int p5), .val (.int s0), .val (.int s1), .val (.int s2), .val (.int (2 : Int32)), .val (.int b0), .val (.int b1), .val (.int b2), .val (.int bp), .val (.int pr), .val (.ref b15), .val (.int fc), .val (.int (1 : Int32)), .val (.int (re2.getD (0 : Int32).toNatClampNeg 0)), .val (.int (re2.getD (1 : Int32).toNatClampNeg 0)), .val (.int (-1 : Int32))] [(.int (re2.getD (1 : Int32).toNatClampNeg 0)), (.int (re2.getD (0 : Int32).toNatClampNeg 0))])) _
      refine XS.icmpNo X247.here hx rfl (hb hby at_420) rfl (feq r01).1 ?_
      show Steps p.tables e below (T247.setTop (mkF m 423 #[.val (.int p1), .val (.int p2), .val (.int p3), .val (.int p4), .val (.int p5), .val (.int s0), .val (.int s1), .val (.int s2), .val (.int (2 : Int32)), .val (.int b0), .val (.int b1), .val (.int b2), .val (.int bp), .val (.int pr), .val (.ref b15), .val (.int fc), .val (.int (1 : Int32)), .val (.int (re2.getD (0 : Int32).toNatClampNeg 0)), .val (.int (re2.getD (1 : Int32).toNatClampNeg 0)), .val (.int (-1 : Int32))] [])) _
      refine XS.iconst X247.here hx rfl (hb hby at_423) ?_
      show Steps p.tables e below (T247.setTop (mkF m 424 #[.val (.int p1), .val (.int p2), .val (.int p3), .val (.int p4), .val (.int p5), .val (.int s0), .val (.int s1), .val (.int s2), .val (.int (2 : Int32)), .val (.int b0), .val (.int b1), .val (.int b2), .val (.int bp), .val (.int pr), .val (.ref b15), .val (.int fc), .val (.int (1 : Int32)), .val (.int (re2.getD (0 : Int32).toNatClampNeg 0)), .val (.int (re2.getD (1 : Int32).toNatClampNeg 0)), .val (.int (-1 : Int32))] [(.int (1 : Int32))])) _
      refine XS.goto X247.here hx rfl (pc0 := 424) (pc' := 428) rfl (hb hby at_424) (by decide) (by decide) ?_
      show Steps p.tables e below (T247.setTop (mkF m 428 #[.val (.int p1), .val (.int p2), .val (.int p3), .val (.int p4), .val (.int p5), .val (.int s0), .val (.int s1), .val (.int s2), .val (.int (2 : Int32)), .val (.int b0), .val (.int b1), .val (.int b2), .val (.int bp), .val (.int pr), .val (.ref b15), .val (.int fc), .val (.int (1 : Int32)), .val (.int (re2.getD (0 : Int32).toNatClampNeg 0)), .val (.int (re2.getD (1 : Int32).toNatClampNeg 0)), .val (.int (-1 : Int32))] [(.int (1 : Int32))])) _
      refine XS.istore X247.here hx rfl (hb hby at_428) rfl (l' := #[.val (.int p1), .val (.int p2), .val (.int p3), .val (.int p4), .val (.int p5), .val (.int s0), .val (.int s1), .val (.int s2), .val (.int (2 : Int32)), .val (.int b0), .val (.int b1), .val (.int b2), .val (.int bp), .val (.int pr), .val (.ref b15), .val (.int fc), .val (.int (1 : Int32)), .val (.int (re2.getD (0 : Int32).toNatClampNeg 0)), .val (.int (re2.getD (1 : Int32).toNatClampNeg 0)), .val (.int (-1 : Int32))]) rfl ?_
      show Steps p.tables e below (T247.setTop (mkF m 430 #[.val (.int p1), .val (.int p2), .val (.int p3), .val (.int p4), .val (.int p5), .val (.int s0), .val (.int s1), .val (.int s2), .val (.int (2 : Int32)), .val (.int b0), .val (.int b1), .val (.int b2), .val (.int bp), .val (.int pr), .val (.ref b15), .val (.int fc), .val (.int (1 : Int32)), .val (.int (re2.getD (0 : Int32).toNatClampNeg 0)), .val (.int (re2.getD (1 : Int32).toNatClampNeg 0)), .val (.int (-1 : Int32))] [])) _
      refine XS.iload X247.here hx rfl (hb hby at_430) rfl ?_
      show Steps p.tables e below (T247.setTop (mkF m 432 #[.val (.int p1), .val (.int p2), .val (.int p3), .val (.int p4), .val (.int p5), .val (.int s0), .val (.int s1), .val (.int s2), .val (.int (2 : Int32)), .val (.int b0), .val (.int b1), .val (.int b2), .val (.int bp), .val (.int pr), .val (.ref b15), .val (.int fc), .val (.int (1 : Int32)), .val (.int (re2.getD (0 : Int32).toNatClampNeg 0)), .val (.int (re2.getD (1 : Int32).toNatClampNeg 0)), .val (.int (-1 : Int32))] [(.int (2 : Int32))])) _
      refine XS.iconst X247.here hx rfl (hb hby at_432) ?_
      show Steps p.tables e below (T247.setTop (mkF m 433 #[.val (.int p1), .val (.int p2), .val (.int p3), .val (.int p4), .val (.int p5), .val (.int s0), .val (.int s1), .val (.int s2), .val (.int (2 : Int32)), .val (.int b0), .val (.int b1), .val (.int b2), .val (.int bp), .val (.int pr), .val (.ref b15), .val (.int fc), .val (.int (1 : Int32)), .val (.int (re2.getD (0 : Int32).toNatClampNeg 0)), .val (.int (re2.getD (1 : Int32).toNatClampNeg 0)), .val (.int (-1 : Int32))] [(.int (2 : Int32)), (.int (2 : Int32))])) _
      refine XS.icmpYes X247.here hx rfl (pc0 := 433) (pc' := 462) rfl (hb hby at_433) rfl (flt (by decide)).2.2.2 (by decide) (by decide) ?_
      show Steps p.tables e below (T247.setTop (mkF m 462 #[.val (.int p1), .val (.int p2), .val (.int p3), .val (.int p4), .val (.int p5), .val (.int s0), .val (.int s1), .val (.int s2), .val (.int (2 : Int32)), .val (.int b0), .val (.int b1), .val (.int b2), .val (.int bp), .val (.int pr), .val (.ref b15), .val (.int fc), .val (.int (1 : Int32)), .val (.int (re2.getD (0 : Int32).toNatClampNeg 0)), .val (.int (re2.getD (1 : Int32).toNatClampNeg 0)), .val (.int (-1 : Int32))] [])) _
      refine XS.iload X247.here hx rfl (hb hby at_462) rfl ?_
      show Steps p.tables e below (T247.setTop (mkF m 464 #[.val (.int p1), .val (.int p2), .val (.int p3), .val (.int p4), .val (.int p5), .val (.int s0), .val (.int s1), .val (.int s2), .val (.int (2 : Int32)), .val (.int b0), .val (.int b1), .val (.int b2), .val (.int bp), .val (.int pr), .val (.ref b15), .val (.int fc), .val (.int (1 : Int32)), .val (.int (re2.getD (0 : Int32).toNatClampNeg 0)), .val (.int (re2.getD (1 : Int32).toNatClampNeg 0)), .val (.int (-1 : Int32))] [(.int (1 : Int32))])) _
      refine XS.ifNo X247.here hx rfl (hb hby at_464) rfl ((if0 _ _).trans (feq (by decide)).1) ?_
      show Steps p.tables e below (T247.setTop (mkF m 467 #[.val (.int p1), .val (.int p2), .val (.int p3), .val (.int p4), .val (.int p5), .val (.int s0), .val (.int s1), .val (.int s2), .val (.int (2 : Int32)), .val (.int b0), .val (.int b1), .val (.int b2), .val (.int bp), .val (.int pr), .val (.ref b15), .val (.int fc), .val (.int (1 : Int32)), .val (.int (re2.getD (0 : Int32).toNatClampNeg 0)), .val (.int (re2.getD (1 : Int32).toNatClampNeg 0)), .val (.int (-1 : Int32))] [])) _
      refine XS.aload X247.here hx rfl (hb hby at_467) rfl rfl ?_
      show Steps p.tables e below (T247.setTop (mkF m 469 #[.val (.int p1), .val (.int p2), .val (.int p3), .val (.int p4), .val (.int p5), .val (.int s0), .val (.int s1), .val (.int s2), .val (.int (2 : Int32)), .val (.int b0), .val (.int b1), .val (.int b2), .val (.int bp), .val (.int pr), .val (.ref b15), .val (.int fc), .val (.int (1 : Int32)), .val (.int (re2.getD (0 : Int32).toNatClampNeg 0)), .val (.int (re2.getD (1 : Int32).toNatClampNeg 0)), .val (.int (-1 : Int32))] [(.ref b15)])) _
      refine XS.iconst X247.here hx rfl (hb hby at_469) ?_
      show Steps p.tables e below (T247.setTop (mkF m 470 #[.val (.int p1), .val (.int p2), .val (.int p3), .val (.int p4), .val (.int p5), .val (.int s0), .val (.int s1), .val (.int s2), .val (.int (2 : Int32)), .val (.int b0), .val (.int b1), .val (.int b2), .val (.int bp), .val (.int pr), .val (.ref b15), .val (.int fc), .val (.int (1 : Int32)), .val (.int (re2.getD (0 : Int32).toNatClampNeg 0)), .val (.int (re2.getD (1 : Int32).toNatClampNeg 0)), .val (.int (-1 : Int32))] [(.int (0 : Int32)), (.ref b15)])) _
      refine st248.trans ?_
      show Steps p.tables e below (T248.setTop (mkF m 473 #[.val (.int p1), .val (.int p2), .val (.int p3), .val (.int p4), .val (.int p5), .val (.int s0), .val (.int s1), .val (.int s2), .val (.int (2 : Int32)), .val (.int b0), .val (.int b1), .val (.int b2), .val (.int bp), .val (.int pr), .val (.ref b15), .val (.int fc), .val (.int (1 : Int32)), .val (.int (re2.getD (0 : Int32).toNatClampNeg 0)), .val (.int (re2.getD (1 : Int32).toNatClampNeg 0)), .val (.int (-1 : Int32))] [(.int (own_ism (0 : Int32) rm2 ((0 + 1) + 1)))])) _
      refine XS.iconst X248.here hx rfl (hb hby at_473) ?_
      show Steps p.tables e below (T248.setTop (mkF m 474 #[.val (.int p1), .val (.int p2), .val (.int p3), .val (.int p4), .val (.int p5), .val (.int s0), .val (.int s1), .val (.int s2), .val (.int (2 : Int32)), .val (.int b0), .val (.int b1), .val (.int b2), .val (.int bp), .val (.int pr), .val (.ref b15), .val (.int fc), .val (.int (1 : Int32)), .val (.int (re2.getD (0 : Int32).toNatClampNeg 0)), .val (.int (re2.getD (1 : Int32).toNatClampNeg 0)), .val (.int (-1 : Int32))] [(.int (0 : Int32)), (.int (own_ism (0 : Int32) rm2 ((0 + 1) + 1)))])) _
      refine XS.iload X248.here hx rfl (hb hby at_474) rfl ?_
      show Steps p.tables e below (T248.setTop (mkF m 476 #[.val (.int p1), .val (.int p2), .val (.int p3), .val (.int p4), .val (.int p5), .val (.int s0), .val (.int s1), .val (.int s2), .val (.int (2 : Int32)), .val (.int b0), .val (.int b1), .val (.int b2), .val (.int bp), .val (.int pr), .val (.ref b15), .val (.int fc), .val (.int (1 : Int32)), .val (.int (re2.getD (0 : Int32).toNatClampNeg 0)), .val (.int (re2.getD (1 : Int32).toNatClampNeg 0)), .val (.int (-1 : Int32))] [(.int (2 : Int32)), (.int (0 : Int32)), (.int (own_ism (0 : Int32) rm2 ((0 + 1) + 1)))])) _
      refine XS.iload X248.here hx rfl (hb hby at_476) rfl ?_
      show Steps p.tables e below (T248.setTop (mkF m 478 #[.val (.int p1), .val (.int p2), .val (.int p3), .val (.int p4), .val (.int p5), .val (.int s0), .val (.int s1), .val (.int s2), .val (.int (2 : Int32)), .val (.int b0), .val (.int b1), .val (.int b2), .val (.int bp), .val (.int pr), .val (.ref b15), .val (.int fc), .val (.int (1 : Int32)), .val (.int (re2.getD (0 : Int32).toNatClampNeg 0)), .val (.int (re2.getD (1 : Int32).toNatClampNeg 0)), .val (.int (-1 : Int32))] [(.int s0), (.int (2 : Int32)), (.int (0 : Int32)), (.int (own_ism (0 : Int32) rm2 ((0 + 1) + 1)))])) _
      refine XS.iload X248.here hx rfl (hb hby at_478) rfl ?_
      show Steps p.tables e below (T248.setTop (mkF m 480 #[.val (.int p1), .val (.int p2), .val (.int p3), .val (.int p4), .val (.int p5), .val (.int s0), .val (.int s1), .val (.int s2), .val (.int (2 : Int32)), .val (.int b0), .val (.int b1), .val (.int b2), .val (.int bp), .val (.int pr), .val (.ref b15), .val (.int fc), .val (.int (1 : Int32)), .val (.int (re2.getD (0 : Int32).toNatClampNeg 0)), .val (.int (re2.getD (1 : Int32).toNatClampNeg 0)), .val (.int (-1 : Int32))] [(.int s1), (.int s0), (.int (2 : Int32)), (.int (0 : Int32)), (.int (own_ism (0 : Int32) rm2 ((0 + 1) + 1)))])) _
      refine XS.iload X248.here hx rfl (hb hby at_480) rfl ?_
      show Steps p.tables e below (T248.setTop (mkF m 482 #[.val (.int p1), .val (.int p2), .val (.int p3), .val (.int p4), .val (.int p5), .val (.int s0), .val (.int s1), .val (.int s2), .val (.int (2 : Int32)), .val (.int b0), .val (.int b1), .val (.int b2), .val (.int bp), .val (.int pr), .val (.ref b15), .val (.int fc), .val (.int (1 : Int32)), .val (.int (re2.getD (0 : Int32).toNatClampNeg 0)), .val (.int (re2.getD (1 : Int32).toNatClampNeg 0)), .val (.int (-1 : Int32))] [(.int s2), (.int s1), (.int s0), (.int (2 : Int32)), (.int (0 : Int32)), (.int (own_ism (0 : Int32) rm2 ((0 + 1) + 1)))])) _
      refine st249 _ ?_
      show Steps p.tables e below (T249.setTop (mkF m 485 #[.val (.int p1), .val (.int p2), .val (.int p3), .val (.int p4), .val (.int p5), .val (.int s0), .val (.int s1), .val (.int s2), .val (.int (2 : Int32)), .val (.int b0), .val (.int b1), .val (.int b2), .val (.int bp), .val (.int pr), .val (.ref b15), .val (.int fc), .val (.int (1 : Int32)), .val (.int (re2.getD (0 : Int32).toNatClampNeg 0)), .val (.int (re2.getD (1 : Int32).toNatClampNeg 0)), .val (.int (-1 : Int32))] [(.int (own_exp (0 : Int32) (2 : Int32) s0 s1 s2)), (.int (own_ism (0 : Int32) rm2 ((0 + 1) + 1)))])) _
      refine XS.icmpNo X249.here hx rfl (hb hby at_485) rfl (teq im0).2 ?_
      show Steps p.tables e below (T249.setTop (mkF m 488 #[.val (.int p1), .val (.int p2), .val (.int p3), .val (.int p4), .val (.int p5), .val (.int s0), .val (.int s1), .val (.int s2), .val (.int (2 : Int32)), .val (.int b0), .val (.int b1), .val (.int b2), .val (.int bp), .val (.int pr), .val (.ref b15), .val (.int fc), .val (.int (1 : Int32)), .val (.int (re2.getD (0 : Int32).toNatClampNeg 0)), .val (.int (re2.getD (1 : Int32).toNatClampNeg 0)), .val (.int (-1 : Int32))] [])) _
      refine XS.iconst X249.here hx rfl (hb hby at_488) ?_
      show Steps p.tables e below (T249.setTop (mkF m 489 #[.val (.int p1), .val (.int p2), .val (.int p3), .val (.int p4), .val (.int p5), .val (.int s0), .val (.int s1), .val (.int s2), .val (.int (2 : Int32)), .val (.int b0), .val (.int b1), .val (.int b2), .val (.int bp), .val (.int pr), .val (.ref b15), .val (.int fc), .val (.int (1 : Int32)), .val (.int (re2.getD (0 : Int32).toNatClampNeg 0)), .val (.int (re2.getD (1 : Int32).toNatClampNeg 0)), .val (.int (-1 : Int32))] [(.int (1 : Int32))])) _
      refine XS.goto X249.here hx rfl (pc0 := 489) (pc' := 493) rfl (hb hby at_489) (by decide) (by decide) ?_
      show Steps p.tables e below (T249.setTop (mkF m 493 #[.val (.int p1), .val (.int p2), .val (.int p3), .val (.int p4), .val (.int p5), .val (.int s0), .val (.int s1), .val (.int s2), .val (.int (2 : Int32)), .val (.int b0), .val (.int b1), .val (.int b2), .val (.int bp), .val (.int pr), .val (.ref b15), .val (.int fc), .val (.int (1 : Int32)), .val (.int (re2.getD (0 : Int32).toNatClampNeg 0)), .val (.int (re2.getD (1 : Int32).toNatClampNeg 0)), .val (.int (-1 : Int32))] [(.int (1 : Int32))])) _
      refine XS.istore X249.here hx rfl (hb hby at_493) rfl (l' := #[.val (.int p1), .val (.int p2), .val (.int p3), .val (.int p4), .val (.int p5), .val (.int s0), .val (.int s1), .val (.int s2), .val (.int (2 : Int32)), .val (.int b0), .val (.int b1), .val (.int b2), .val (.int bp), .val (.int pr), .val (.ref b15), .val (.int fc), .val (.int (1 : Int32)), .val (.int (re2.getD (0 : Int32).toNatClampNeg 0)), .val (.int (re2.getD (1 : Int32).toNatClampNeg 0)), .val (.int (-1 : Int32))]) rfl ?_
      show Steps p.tables e below (T249.setTop (mkF m 495 #[.val (.int p1), .val (.int p2), .val (.int p3), .val (.int p4), .val (.int p5), .val (.int s0), .val (.int s1), .val (.int s2), .val (.int (2 : Int32)), .val (.int b0), .val (.int b1), .val (.int b2), .val (.int bp), .val (.int pr), .val (.ref b15), .val (.int fc), .val (.int (1 : Int32)), .val (.int (re2.getD (0 : Int32).toNatClampNeg 0)), .val (.int (re2.getD (1 : Int32).toNatClampNeg 0)), .val (.int (-1 : Int32))] [])) _
      refine XS.iload X249.here hx rfl (hb hby at_495) rfl ?_
      show Steps p.tables e below (T249.setTop (mkF m 497 #[.val (.int p1), .val (.int p2), .val (.int p3), .val (.int p4), .val (.int p5), .val (.int s0), .val (.int s1), .val (.int s2), .val (.int (2 : Int32)), .val (.int b0), .val (.int b1), .val (.int b2), .val (.int bp), .val (.int pr), .val (.ref b15), .val (.int fc), .val (.int (1 : Int32)), .val (.int (re2.getD (0 : Int32).toNatClampNeg 0)), .val (.int (re2.getD (1 : Int32).toNatClampNeg 0)), .val (.int (-1 : Int32))] [(.int (1 : Int32))])) _
      refine XS.ifNo X249.here hx rfl (hb hby at_497) rfl ((if0 _ _).trans (feq (by decide)).1) ?_
      show Steps p.tables e below (T249.setTop (mkF m 500 #[.val (.int p1), .val (.int p2), .val (.int p3), .val (.int p4), .val (.int p5), .val (.int s0), .val (.int s1), .val (.int s2), .val (.int (2 : Int32)), .val (.int b0), .val (.int b1), .val (.int b2), .val (.int bp), .val (.int pr), .val (.ref b15), .val (.int fc), .val (.int (1 : Int32)), .val (.int (re2.getD (0 : Int32).toNatClampNeg 0)), .val (.int (re2.getD (1 : Int32).toNatClampNeg 0)), .val (.int (-1 : Int32))] [])) _
      refine XS.aload X249.here hx rfl (hb hby at_500) rfl rfl ?_
      show Steps p.tables e below (T249.setTop (mkF m 502 #[.val (.int p1), .val (.int p2), .val (.int p3), .val (.int p4), .val (.int p5), .val (.int s0), .val (.int s1), .val (.int s2), .val (.int (2 : Int32)), .val (.int b0), .val (.int b1), .val (.int b2), .val (.int bp), .val (.int pr), .val (.ref b15), .val (.int fc), .val (.int (1 : Int32)), .val (.int (re2.getD (0 : Int32).toNatClampNeg 0)), .val (.int (re2.getD (1 : Int32).toNatClampNeg 0)), .val (.int (-1 : Int32))] [(.ref b15)])) _
      refine XS.iconst X249.here hx rfl (hb hby at_502) ?_
      show Steps p.tables e below (T249.setTop (mkF m 503 #[.val (.int p1), .val (.int p2), .val (.int p3), .val (.int p4), .val (.int p5), .val (.int s0), .val (.int s1), .val (.int s2), .val (.int (2 : Int32)), .val (.int b0), .val (.int b1), .val (.int b2), .val (.int bp), .val (.int pr), .val (.ref b15), .val (.int fc), .val (.int (1 : Int32)), .val (.int (re2.getD (0 : Int32).toNatClampNeg 0)), .val (.int (re2.getD (1 : Int32).toNatClampNeg 0)), .val (.int (-1 : Int32))] [(.int (1 : Int32)), (.ref b15)])) _
      refine st250.trans ?_
      show Steps p.tables e below (T250.setTop (mkF m 506 #[.val (.int p1), .val (.int p2), .val (.int p3), .val (.int p4), .val (.int p5), .val (.int s0), .val (.int s1), .val (.int s2), .val (.int (2 : Int32)), .val (.int b0), .val (.int b1), .val (.int b2), .val (.int bp), .val (.int pr), .val (.ref b15), .val (.int fc), .val (.int (1 : Int32)), .val (.int (re2.getD (0 : Int32).toNatClampNeg 0)), .val (.int (re2.getD (1 : Int32).toNatClampNeg 0)), .val (.int (-1 : Int32))] [(.int (own_ism (1 : Int32) rm2 ((0 + 1) + 1)))])) _
      refine XS.iconst X250.here hx rfl (hb hby at_506) ?_
      show Steps p.tables e below (T250.setTop (mkF m 507 #[.val (.int p1), .val (.int p2), .val (.int p3), .val (.int p4), .val (.int p5), .val (.int s0), .val (.int s1), .val (.int s2), .val (.int (2 : Int32)), .val (.int b0), .val (.int b1), .val (.int b2), .val (.int bp), .val (.int pr), .val (.ref b15), .val (.int fc), .val (.int (1 : Int32)), .val (.int (re2.getD (0 : Int32).toNatClampNeg 0)), .val (.int (re2.getD (1 : Int32).toNatClampNeg 0)), .val (.int (-1 : Int32))] [(.int (1 : Int32)), (.int (own_ism (1 : Int32) rm2 ((0 + 1) + 1)))])) _
      refine XS.iload X250.here hx rfl (hb hby at_507) rfl ?_
      show Steps p.tables e below (T250.setTop (mkF m 509 #[.val (.int p1), .val (.int p2), .val (.int p3), .val (.int p4), .val (.int p5), .val (.int s0), .val (.int s1), .val (.int s2), .val (.int (2 : Int32)), .val (.int b0), .val (.int b1), .val (.int b2), .val (.int bp), .val (.int pr), .val (.ref b15), .val (.int fc), .val (.int (1 : Int32)), .val (.int (re2.getD (0 : Int32).toNatClampNeg 0)), .val (.int (re2.getD (1 : Int32).toNatClampNeg 0)), .val (.int (-1 : Int32))] [(.int (2 : Int32)), (.int (1 : Int32)), (.int (own_ism (1 : Int32) rm2 ((0 + 1) + 1)))])) _
      refine XS.iload X250.here hx rfl (hb hby at_509) rfl ?_
      show Steps p.tables e below (T250.setTop (mkF m 511 #[.val (.int p1), .val (.int p2), .val (.int p3), .val (.int p4), .val (.int p5), .val (.int s0), .val (.int s1), .val (.int s2), .val (.int (2 : Int32)), .val (.int b0), .val (.int b1), .val (.int b2), .val (.int bp), .val (.int pr), .val (.ref b15), .val (.int fc), .val (.int (1 : Int32)), .val (.int (re2.getD (0 : Int32).toNatClampNeg 0)), .val (.int (re2.getD (1 : Int32).toNatClampNeg 0)), .val (.int (-1 : Int32))] [(.int s0), (.int (2 : Int32)), (.int (1 : Int32)), (.int (own_ism (1 : Int32) rm2 ((0 + 1) + 1)))])) _
      refine XS.iload X250.here hx rfl (hb hby at_511) rfl ?_
      show Steps p.tables e below (T250.setTop (mkF m 513 #[.val (.int p1), .val (.int p2), .val (.int p3), .val (.int p4), .val (.int p5), .val (.int s0), .val (.int s1), .val (.int s2), .val (.int (2 : Int32)), .val (.int b0), .val (.int b1), .val (.int b2), .val (.int bp), .val (.int pr), .val (.ref b15), .val (.int fc), .val (.int (1 : Int32)), .val (.int (re2.getD (0 : Int32).toNatClampNeg 0)), .val (.int (re2.getD (1 : Int32).toNatClampNeg 0)), .val (.int (-1 : Int32))] [(.int s1), (.int s0), (.int (2 : Int32)), (.int (1 : Int32)), (.int (own_ism (1 : Int32) rm2 ((0 + 1) + 1)))])) _
      refine XS.iload X250.here hx rfl (hb hby at_513) rfl ?_
      show Steps p.tables e below (T250.setTop (mkF m 515 #[.val (.int p1), .val (.int p2), .val (.int p3), .val (.int p4), .val (.int p5), .val (.int s0), .val (.int s1), .val (.int s2), .val (.int (2 : Int32)), .val (.int b0), .val (.int b1), .val (.int b2), .val (.int bp), .val (.int pr), .val (.ref b15), .val (.int fc), .val (.int (1 : Int32)), .val (.int (re2.getD (0 : Int32).toNatClampNeg 0)), .val (.int (re2.getD (1 : Int32).toNatClampNeg 0)), .val (.int (-1 : Int32))] [(.int s2), (.int s1), (.int s0), (.int (2 : Int32)), (.int (1 : Int32)), (.int (own_ism (1 : Int32) rm2 ((0 + 1) + 1)))])) _
      refine st251 _ ?_
      show Steps p.tables e below (T251.setTop (mkF m 518 #[.val (.int p1), .val (.int p2), .val (.int p3), .val (.int p4), .val (.int p5), .val (.int s0), .val (.int s1), .val (.int s2), .val (.int (2 : Int32)), .val (.int b0), .val (.int b1), .val (.int b2), .val (.int bp), .val (.int pr), .val (.ref b15), .val (.int fc), .val (.int (1 : Int32)), .val (.int (re2.getD (0 : Int32).toNatClampNeg 0)), .val (.int (re2.getD (1 : Int32).toNatClampNeg 0)), .val (.int (-1 : Int32))] [(.int (own_exp (1 : Int32) (2 : Int32) s0 s1 s2)), (.int (own_ism (1 : Int32) rm2 ((0 + 1) + 1)))])) _
      refine XS.icmpNo X251.here hx rfl (hb hby at_518) rfl (teq im1).2 ?_
      show Steps p.tables e below (T251.setTop (mkF m 521 #[.val (.int p1), .val (.int p2), .val (.int p3), .val (.int p4), .val (.int p5), .val (.int s0), .val (.int s1), .val (.int s2), .val (.int (2 : Int32)), .val (.int b0), .val (.int b1), .val (.int b2), .val (.int bp), .val (.int pr), .val (.ref b15), .val (.int fc), .val (.int (1 : Int32)), .val (.int (re2.getD (0 : Int32).toNatClampNeg 0)), .val (.int (re2.getD (1 : Int32).toNatClampNeg 0)), .val (.int (-1 : Int32))] [])) _
      refine XS.iconst X251.here hx rfl (hb hby at_521) ?_
      show Steps p.tables e below (T251.setTop (mkF m 522 #[.val (.int p1), .val (.int p2), .val (.int p3), .val (.int p4), .val (.int p5), .val (.int s0), .val (.int s1), .val (.int s2), .val (.int (2 : Int32)), .val (.int b0), .val (.int b1), .val (.int b2), .val (.int bp), .val (.int pr), .val (.ref b15), .val (.int fc), .val (.int (1 : Int32)), .val (.int (re2.getD (0 : Int32).toNatClampNeg 0)), .val (.int (re2.getD (1 : Int32).toNatClampNeg 0)), .val (.int (-1 : Int32))] [(.int (1 : Int32))])) _
      refine XS.goto X251.here hx rfl (pc0 := 522) (pc' := 526) rfl (hb hby at_522) (by decide) (by decide) ?_
      show Steps p.tables e below (T251.setTop (mkF m 526 #[.val (.int p1), .val (.int p2), .val (.int p3), .val (.int p4), .val (.int p5), .val (.int s0), .val (.int s1), .val (.int s2), .val (.int (2 : Int32)), .val (.int b0), .val (.int b1), .val (.int b2), .val (.int bp), .val (.int pr), .val (.ref b15), .val (.int fc), .val (.int (1 : Int32)), .val (.int (re2.getD (0 : Int32).toNatClampNeg 0)), .val (.int (re2.getD (1 : Int32).toNatClampNeg 0)), .val (.int (-1 : Int32))] [(.int (1 : Int32))])) _
      refine XS.istore X251.here hx rfl (hb hby at_526) rfl (l' := #[.val (.int p1), .val (.int p2), .val (.int p3), .val (.int p4), .val (.int p5), .val (.int s0), .val (.int s1), .val (.int s2), .val (.int (2 : Int32)), .val (.int b0), .val (.int b1), .val (.int b2), .val (.int bp), .val (.int pr), .val (.ref b15), .val (.int fc), .val (.int (1 : Int32)), .val (.int (re2.getD (0 : Int32).toNatClampNeg 0)), .val (.int (re2.getD (1 : Int32).toNatClampNeg 0)), .val (.int (-1 : Int32))]) rfl ?_
      show Steps p.tables e below (T251.setTop (mkF m 528 #[.val (.int p1), .val (.int p2), .val (.int p3), .val (.int p4), .val (.int p5), .val (.int s0), .val (.int s1), .val (.int s2), .val (.int (2 : Int32)), .val (.int b0), .val (.int b1), .val (.int b2), .val (.int bp), .val (.int pr), .val (.ref b15), .val (.int fc), .val (.int (1 : Int32)), .val (.int (re2.getD (0 : Int32).toNatClampNeg 0)), .val (.int (re2.getD (1 : Int32).toNatClampNeg 0)), .val (.int (-1 : Int32))] [])) _
      refine XS.iload X251.here hx rfl (hb hby at_528) rfl ?_
      show Steps p.tables e below (T251.setTop (mkF m 530 #[.val (.int p1), .val (.int p2), .val (.int p3), .val (.int p4), .val (.int p5), .val (.int s0), .val (.int s1), .val (.int s2), .val (.int (2 : Int32)), .val (.int b0), .val (.int b1), .val (.int b2), .val (.int bp), .val (.int pr), .val (.ref b15), .val (.int fc), .val (.int (1 : Int32)), .val (.int (re2.getD (0 : Int32).toNatClampNeg 0)), .val (.int (re2.getD (1 : Int32).toNatClampNeg 0)), .val (.int (-1 : Int32))] [(.int (1 : Int32))])) _
      refine XS.ifNo X251.here hx rfl (hb hby at_530) rfl ((if0 _ _).trans (feq (by decide)).1) ?_
      show Steps p.tables e below (T251.setTop (mkF m 533 #[.val (.int p1), .val (.int p2), .val (.int p3), .val (.int p4), .val (.int p5), .val (.int s0), .val (.int s1), .val (.int s2), .val (.int (2 : Int32)), .val (.int b0), .val (.int b1), .val (.int b2), .val (.int bp), .val (.int pr), .val (.ref b15), .val (.int fc), .val (.int (1 : Int32)), .val (.int (re2.getD (0 : Int32).toNatClampNeg 0)), .val (.int (re2.getD (1 : Int32).toNatClampNeg 0)), .val (.int (-1 : Int32))] [])) _
      refine XS.aload X251.here hx rfl (hb hby at_533) rfl rfl ?_
      show Steps p.tables e below (T251.setTop (mkF m 535 #[.val (.int p1), .val (.int p2), .val (.int p3), .val (.int p4), .val (.int p5), .val (.int s0), .val (.int s1), .val (.int s2), .val (.int (2 : Int32)), .val (.int b0), .val (.int b1), .val (.int b2), .val (.int bp), .val (.int pr), .val (.ref b15), .val (.int fc), .val (.int (1 : Int32)), .val (.int (re2.getD (0 : Int32).toNatClampNeg 0)), .val (.int (re2.getD (1 : Int32).toNatClampNeg 0)), .val (.int (-1 : Int32))] [(.ref b15)])) _
      refine XS.iconst X251.here hx rfl (hb hby at_535) ?_
      show Steps p.tables e below (T251.setTop (mkF m 536 #[.val (.int p1), .val (.int p2), .val (.int p3), .val (.int p4), .val (.int p5), .val (.int s0), .val (.int s1), .val (.int s2), .val (.int (2 : Int32)), .val (.int b0), .val (.int b1), .val (.int b2), .val (.int bp), .val (.int pr), .val (.ref b15), .val (.int fc), .val (.int (1 : Int32)), .val (.int (re2.getD (0 : Int32).toNatClampNeg 0)), .val (.int (re2.getD (1 : Int32).toNatClampNeg 0)), .val (.int (-1 : Int32))] [(.int (2 : Int32)), (.ref b15)])) _
      refine st252.trans ?_
      show Steps p.tables e below (T252.setTop (mkF m 539 #[.val (.int p1), .val (.int p2), .val (.int p3), .val (.int p4), .val (.int p5), .val (.int s0), .val (.int s1), .val (.int s2), .val (.int (2 : Int32)), .val (.int b0), .val (.int b1), .val (.int b2), .val (.int bp), .val (.int pr), .val (.ref b15), .val (.int fc), .val (.int (1 : Int32)), .val (.int (re2.getD (0 : Int32).toNatClampNeg 0)), .val (.int (re2.getD (1 : Int32).toNatClampNeg 0)), .val (.int (-1 : Int32))] [(.int (own_ism (2 : Int32) rm2 ((0 + 1) + 1)))])) _
      refine XS.iconst X252.here hx rfl (hb hby at_539) ?_
      show Steps p.tables e below (T252.setTop (mkF m 540 #[.val (.int p1), .val (.int p2), .val (.int p3), .val (.int p4), .val (.int p5), .val (.int s0), .val (.int s1), .val (.int s2), .val (.int (2 : Int32)), .val (.int b0), .val (.int b1), .val (.int b2), .val (.int bp), .val (.int pr), .val (.ref b15), .val (.int fc), .val (.int (1 : Int32)), .val (.int (re2.getD (0 : Int32).toNatClampNeg 0)), .val (.int (re2.getD (1 : Int32).toNatClampNeg 0)), .val (.int (-1 : Int32))] [(.int (2 : Int32)), (.int (own_ism (2 : Int32) rm2 ((0 + 1) + 1)))])) _
      refine XS.iload X252.here hx rfl (hb hby at_540) rfl ?_
      show Steps p.tables e below (T252.setTop (mkF m 542 #[.val (.int p1), .val (.int p2), .val (.int p3), .val (.int p4), .val (.int p5), .val (.int s0), .val (.int s1), .val (.int s2), .val (.int (2 : Int32)), .val (.int b0), .val (.int b1), .val (.int b2), .val (.int bp), .val (.int pr), .val (.ref b15), .val (.int fc), .val (.int (1 : Int32)), .val (.int (re2.getD (0 : Int32).toNatClampNeg 0)), .val (.int (re2.getD (1 : Int32).toNatClampNeg 0)), .val (.int (-1 : Int32))] [(.int (2 : Int32)), (.int (2 : Int32)), (.int (own_ism (2 : Int32) rm2 ((0 + 1) + 1)))])) _
      refine XS.iload X252.here hx rfl (hb hby at_542) rfl ?_
      show Steps p.tables e below (T252.setTop (mkF m 544 #[.val (.int p1), .val (.int p2), .val (.int p3), .val (.int p4), .val (.int p5), .val (.int s0), .val (.int s1), .val (.int s2), .val (.int (2 : Int32)), .val (.int b0), .val (.int b1), .val (.int b2), .val (.int bp), .val (.int pr), .val (.ref b15), .val (.int fc), .val (.int (1 : Int32)), .val (.int (re2.getD (0 : Int32).toNatClampNeg 0)), .val (.int (re2.getD (1 : Int32).toNatClampNeg 0)), .val (.int (-1 : Int32))] [(.int s0), (.int (2 : Int32)), (.int (2 : Int32)), (.int (own_ism (2 : Int32) rm2 ((0 + 1) + 1)))])) _
      refine XS.iload X252.here hx rfl (hb hby at_544) rfl ?_
      show Steps p.tables e below (T252.setTop (mkF m 546 #[.val (.int p1), .val (.int p2), .val (.int p3), .val (.int p4), .val (.int p5), .val (.int s0), .val (.int s1), .val (.int s2), .val (.int (2 : Int32)), .val (.int b0), .val (.int b1), .val (.int b2), .val (.int bp), .val (.int pr), .val (.ref b15), .val (.int fc), .val (.int (1 : Int32)), .val (.int (re2.getD (0 : Int32).toNatClampNeg 0)), .val (.int (re2.getD (1 : Int32).toNatClampNeg 0)), .val (.int (-1 : Int32))] [(.int s1), (.int s0), (.int (2 : Int32)), (.int (2 : Int32)), (.int (own_ism (2 : Int32) rm2 ((0 + 1) + 1)))])) _
      refine XS.iload X252.here hx rfl (hb hby at_546) rfl ?_
      show Steps p.tables e below (T252.setTop (mkF m 548 #[.val (.int p1), .val (.int p2), .val (.int p3), .val (.int p4), .val (.int p5), .val (.int s0), .val (.int s1), .val (.int s2), .val (.int (2 : Int32)), .val (.int b0), .val (.int b1), .val (.int b2), .val (.int bp), .val (.int pr), .val (.ref b15), .val (.int fc), .val (.int (1 : Int32)), .val (.int (re2.getD (0 : Int32).toNatClampNeg 0)), .val (.int (re2.getD (1 : Int32).toNatClampNeg 0)), .val (.int (-1 : Int32))] [(.int s2), (.int s1), (.int s0), (.int (2 : Int32)), (.int (2 : Int32)), (.int (own_ism (2 : Int32) rm2 ((0 + 1) + 1)))])) _
      refine st253 _ ?_
      show Steps p.tables e below (T253.setTop (mkF m 551 #[.val (.int p1), .val (.int p2), .val (.int p3), .val (.int p4), .val (.int p5), .val (.int s0), .val (.int s1), .val (.int s2), .val (.int (2 : Int32)), .val (.int b0), .val (.int b1), .val (.int b2), .val (.int bp), .val (.int pr), .val (.ref b15), .val (.int fc), .val (.int (1 : Int32)), .val (.int (re2.getD (0 : Int32).toNatClampNeg 0)), .val (.int (re2.getD (1 : Int32).toNatClampNeg 0)), .val (.int (-1 : Int32))] [(.int (own_exp (2 : Int32) (2 : Int32) s0 s1 s2)), (.int (own_ism (2 : Int32) rm2 ((0 + 1) + 1)))])) _
      refine XS.icmpNo X253.here hx rfl (hb hby at_551) rfl (teq im2).2 ?_
      show Steps p.tables e below (T253.setTop (mkF m 554 #[.val (.int p1), .val (.int p2), .val (.int p3), .val (.int p4), .val (.int p5), .val (.int s0), .val (.int s1), .val (.int s2), .val (.int (2 : Int32)), .val (.int b0), .val (.int b1), .val (.int b2), .val (.int bp), .val (.int pr), .val (.ref b15), .val (.int fc), .val (.int (1 : Int32)), .val (.int (re2.getD (0 : Int32).toNatClampNeg 0)), .val (.int (re2.getD (1 : Int32).toNatClampNeg 0)), .val (.int (-1 : Int32))] [])) _
      refine XS.iconst X253.here hx rfl (hb hby at_554) ?_
      show Steps p.tables e below (T253.setTop (mkF m 555 #[.val (.int p1), .val (.int p2), .val (.int p3), .val (.int p4), .val (.int p5), .val (.int s0), .val (.int s1), .val (.int s2), .val (.int (2 : Int32)), .val (.int b0), .val (.int b1), .val (.int b2), .val (.int bp), .val (.int pr), .val (.ref b15), .val (.int fc), .val (.int (1 : Int32)), .val (.int (re2.getD (0 : Int32).toNatClampNeg 0)), .val (.int (re2.getD (1 : Int32).toNatClampNeg 0)), .val (.int (-1 : Int32))] [(.int (1 : Int32))])) _
      refine XS.goto X253.here hx rfl (pc0 := 555) (pc' := 559) rfl (hb hby at_555) (by decide) (by decide) ?_
      show Steps p.tables e below (T253.setTop (mkF m 559 #[.val (.int p1), .val (.int p2), .val (.int p3), .val (.int p4), .val (.int p5), .val (.int s0), .val (.int s1), .val (.int s2), .val (.int (2 : Int32)), .val (.int b0), .val (.int b1), .val (.int b2), .val (.int bp), .val (.int pr), .val (.ref b15), .val (.int fc), .val (.int (1 : Int32)), .val (.int (re2.getD (0 : Int32).toNatClampNeg 0)), .val (.int (re2.getD (1 : Int32).toNatClampNeg 0)), .val (.int (-1 : Int32))] [(.int (1 : Int32))])) _
      refine XS.istore X253.here hx rfl (hb hby at_559) rfl (l' := #[.val (.int p1), .val (.int p2), .val (.int p3), .val (.int p4), .val (.int p5), .val (.int s0), .val (.int s1), .val (.int s2), .val (.int (2 : Int32)), .val (.int b0), .val (.int b1), .val (.int b2), .val (.int bp), .val (.int pr), .val (.ref b15), .val (.int fc), .val (.int (1 : Int32)), .val (.int (re2.getD (0 : Int32).toNatClampNeg 0)), .val (.int (re2.getD (1 : Int32).toNatClampNeg 0)), .val (.int (-1 : Int32))]) rfl ?_
      show Steps p.tables e below (T253.setTop (mkF m 561 #[.val (.int p1), .val (.int p2), .val (.int p3), .val (.int p4), .val (.int p5), .val (.int s0), .val (.int s1), .val (.int s2), .val (.int (2 : Int32)), .val (.int b0), .val (.int b1), .val (.int b2), .val (.int bp), .val (.int pr), .val (.ref b15), .val (.int fc), .val (.int (1 : Int32)), .val (.int (re2.getD (0 : Int32).toNatClampNeg 0)), .val (.int (re2.getD (1 : Int32).toNatClampNeg 0)), .val (.int (-1 : Int32))] [])) _
      refine XS.iload X253.here hx rfl (hb hby at_561) rfl ?_
      exact k)
    obtain ⟨fs, hr, hrun, hended, hW, hsame⟩ := X253.leave (v := some (.int (1 : Int32))) (fun h => by rw [Bd.returns] at h; cases h) (BodyLoose.notSynchronized Bd)
    refine ⟨_, _, k255 _ ?_, hrun, hended, _, _, rfl, ?_, ⟨_, rfl⟩, hW, hsame.mono (by decide) (by decide)⟩
    · show Steps p.tables e below (T253.setTop (mkF m 563 #[.val (.int p1), .val (.int p2), .val (.int p3), .val (.int p4), .val (.int p5), .val (.int s0), .val (.int s1), .val (.int s2), .val (.int (2 : Int32)), .val (.int b0), .val (.int b1), .val (.int b2), .val (.int bp), .val (.int pr), .val (.ref b15), .val (.int fc), .val (.int (1 : Int32)), .val (.int (re2.getD (0 : Int32).toNatClampNeg 0)), .val (.int (re2.getD (1 : Int32).toNatClampNeg 0)), .val (.int (-1 : Int32))] [(.int (1 : Int32))])) _
      exact retN X253 hx (t := .boolean) Bd.returns (by simp) (hb hby at_563) hr
    ·
      show Qlaw _ p1 p2 p3 p4 p5 h0 n0 _ T253.heap _
      rw [he36]
      exact ⟨rfl, N253⟩
  ·
    obtain ⟨cq256, kq256, q256a, q256b, q256c⟩ := isOf hZ rfl E179
    obtain ⟨_, _, ⟨T256, L256, kk256, n256⟩, -, X256, ⟨Lc256, hQ256, l256, y256, z256⟩, st256⟩ := X176.virtualBack hx (y := (⟨"com/example/ariadne/ariadne/algo/SplitSearch", "mark", "(IZ)V"⟩ : MethodName)) (z := (⟨"com/example/ariadne/ariadne/algo/SplitSearch", "mark", "(IZ)V"⟩ : MethodName)) hown (mvT hZ (hw _ (List.mem_of_getElem? (i := 48) rfl))) (mvT hZ (hw _ (List.mem_of_getElem? (i := 49) rfl))) (notFace_of_selects (args := #[]) (mvT hZ (hw _ (List.mem_of_getElem? (i := 51) rfl)))) (mvT hZ (hw _ (List.mem_of_getElem? (i := 51) rfl))) (mvT hZ (hw _ (List.mem_of_getElem? (i := 50) rfl))) (by decide) (backOf (W := 0) (rm_mark l Z a0 hw [] b15 s0 b0 ((0 + 1) + 1) 0 0 re0 rm0 ae am ke km T176.heap n0 (Nat.le_trans Z0 K177.1) Sn3 nea neb nem g_b15 g_ae g_am (own_lt3 hs0) (by decide) (by decide) lre0 lrm0) hZ (hw _ (List.mem_of_getElem? (i := 52) rfl)) (hw _ (List.mem_of_getElem? (i := 3) rfl)) (by decide) (by decide)) q256a q256c (g := (mkF m 155 #[.val (.int p1), .val (.int p2), .val (.int p3), .val (.int p4), .val (.int p5), .val (.int s0), .val (.int s1), .val (.int s2), .val (.int (3 : Int32)), .val (.int b0), .val (.int b1), .val (.int b2), .val (.int bp), .val (.int pr), .val (.ref b15), .unset, .unset, .unset, .unset, .unset] [(.int b0), (.int s0), (.ref b15)])) rfl (by rw [hml]; rfl) (Steps.refl _) (argsL := [(.int s0), (.int b0)]) (rest := []) (lenOf pd__IZ_V rfl) rfl (by show 2 * 0 + _ ≤ _; exact Nat.le_of_eq rfl) (hb hby at_155) (fun _ _ => ⟨rfl, rfl, (by decide : 11 + 0 ≤ _), (by decide : 48 + 0 ≤ _)⟩)
    dsimp only [Pt.U, Pt.locs, Pt.cells, Pt.slots] at X256 l256 y256 z256 st256 hQ256
    subst l256 y256 z256
    obtain ⟨rfl, N256q, Kn37, Sn37⟩ := hQ256
    have N256 := Fr.app N176 N256q
    have K257 : Keep h0 T256.heap [] := K177.trans Kn37 (allS (Or.inr sz_b15) (allS (Or.inr sz_ae) (allS (Or.inr sz_am) all0)))
    have E258 : Exa Z T256.heap b15 "com/example/ariadne/ariadne/algo/SplitSearch" := E179.keep Kn37
    obtain ⟨re1, hre1⟩ : ∃ z : List Int32, z = own_re s0 b0 0 0 re0 := ⟨_, rfl⟩
    rw [← hre1] at Sn37
    obtain ⟨rm1, hrm1⟩ : ∃ z : List Int32, z = (rm0 : List Int32).set s0.toNatClampNeg ((0 + 1) + 1) := ⟨_, rfl⟩
    rw [← hrm1] at Sn37
    have lre1 : re1.length = 3 := by rw [hre1, own_re_len]; exact lre0
    have lrm1 : rm1.length = 3 := by rw [hrm1, List.length_set]; exact lrm0
    obtain ⟨fm1, hfm1⟩ : ∃ z : Int32, z = own_fm b0 0 := ⟨_, rfl⟩
    rw [← hfm1] at Sn37
    have E259 : Exa Z T256.heap b15 "com/example/ariadne/ariadne/algo/SplitSearch" := Sn37.1
    obtain ⟨cq260, kq260, q260a, q260b, q260c⟩ := isOf hZ rfl E259
    obtain ⟨_, _, ⟨T260, L260, kk260, n260⟩, -, X260, ⟨Lc260, hQ260, l260, y260, z260⟩, st260⟩ := X256.virtualBack hx (y := (⟨"com/example/ariadne/ariadne/algo/SplitSearch", "mark", "(IZ)V"⟩ : MethodName)) (z := (⟨"com/example/ariadne/ariadne/algo/SplitSearch", "mark", "(IZ)V"⟩ : MethodName)) hown (mvT hZ (hw _ (List.mem_of_getElem? (i := 48) rfl))) (mvT hZ (hw _ (List.mem_of_getElem? (i := 49) rfl))) (notFace_of_selects (args := #[]) (mvT hZ (hw _ (List.mem_of_getElem? (i := 51) rfl)))) (mvT hZ (hw _ (List.mem_of_getElem? (i := 51) rfl))) (mvT hZ (hw _ (List.mem_of_getElem? (i := 50) rfl))) (by decide) (backOf (W := 0) (rm_mark l Z a0 hw [] b15 s1 b1 ((0 + 1) + 1) (0 + 1) fm1 re1 rm1 ae am ke km T256.heap n0 (Nat.le_trans Z0 K257.1) Sn37 nea neb nem g_b15 g_ae g_am (own_lt3 hs1) (by decide) (own_lt3 (by rw [hfm1]; exact own_fm1 hb0)) lre1 lrm1) hZ (hw _ (List.mem_of_getElem? (i := 52) rfl)) (hw _ (List.mem_of_getElem? (i := 3) rfl)) (by decide) (by decide)) q260a q260c (g := (mkF m 170 #[.val (.int p1), .val (.int p2), .val (.int p3), .val (.int p4), .val (.int p5), .val (.int s0), .val (.int s1), .val (.int s2), .val (.int (3 : Int32)), .val (.int b0), .val (.int b1), .val (.int b2), .val (.int bp), .val (.int pr), .val (.ref b15), .unset, .unset, .unset, .unset, .unset] [(.int b1), (.int s1), (.ref b15)])) rfl (by rw [hml]; rfl) (Steps.refl _) (argsL := [(.int s1), (.int b1)]) (rest := []) (lenOf pd__IZ_V rfl) rfl (by show 2 * 0 + _ ≤ _; exact Nat.le_of_eq rfl) (hb hby at_170) (fun _ _ => ⟨rfl, rfl, (by decide : 11 + 0 ≤ _), (by decide : 48 + 0 ≤ _)⟩)
    dsimp only [Pt.U, Pt.locs, Pt.cells, Pt.slots] at X260 l260 y260 z260 st260 hQ260
    subst l260 y260 z260
    obtain ⟨rfl, N260q, Kn38, Sn38⟩ := hQ260
    have N260 := Fr.app N256 N260q
    have K261 : Keep h0 T260.heap [] := K257.trans Kn38 (allS (Or.inr sz_b15) (allS (Or.inr sz_ae) (allS (Or.inr sz_am) all0)))
    have E262 : Exa Z T260.heap b15 "com/example/ariadne/ariadne/algo/SplitSearch" := E259.keep Kn38
    obtain ⟨re2, hre2⟩ : ∃ z : List Int32, z = own_re s1 b1 (0 + 1) fm1 re1 := ⟨_, rfl⟩
    rw [← hre2] at Sn38
    obtain ⟨rm2, hrm2⟩ : ∃ z : List Int32, z = (rm1 : List Int32).set s1.toNatClampNeg ((0 + 1) + 1) := ⟨_, rfl⟩
    rw [← hrm2] at Sn38
    have lre2 : re2.length = 3 := by rw [hre2, own_re_len]; exact lre1
    have lrm2 : rm2.length = 3 := by rw [hrm2, List.length_set]; exact lrm1
    obtain ⟨fm2, hfm2⟩ : ∃ z : Int32, z = own_fm b1 fm1 := ⟨_, rfl⟩
    rw [← hfm2] at Sn38
    have E263 : Exa Z T260.heap b15 "com/example/ariadne/ariadne/algo/SplitSearch" := Sn38.1
    obtain ⟨cq264, kq264, q264a, q264b, q264c⟩ := isOf hZ rfl E263
    obtain ⟨_, _, ⟨T264, L264, kk264, n264⟩, -, X264, ⟨Lc264, hQ264, l264, y264, z264⟩, st264⟩ := X260.virtualBack hx (y := (⟨"com/example/ariadne/ariadne/algo/SplitSearch", "mark", "(IZ)V"⟩ : MethodName)) (z := (⟨"com/example/ariadne/ariadne/algo/SplitSearch", "mark", "(IZ)V"⟩ : MethodName)) hown (mvT hZ (hw _ (List.mem_of_getElem? (i := 48) rfl))) (mvT hZ (hw _ (List.mem_of_getElem? (i := 49) rfl))) (notFace_of_selects (args := #[]) (mvT hZ (hw _ (List.mem_of_getElem? (i := 51) rfl)))) (mvT hZ (hw _ (List.mem_of_getElem? (i := 51) rfl))) (mvT hZ (hw _ (List.mem_of_getElem? (i := 50) rfl))) (by decide) (backOf (W := 0) (rm_mark l Z a0 hw [] b15 s2 b2 ((0 + 1) + 1) ((0 + 1) + 1) fm2 re2 rm2 ae am ke km T260.heap n0 (Nat.le_trans Z0 K261.1) Sn38 nea neb nem g_b15 g_ae g_am (own_lt3 hs2) (by decide) (own_lt3 (by rw [hfm2, hfm1]; exact own_fm2 hb0 hb1)) lre2 lrm2) hZ (hw _ (List.mem_of_getElem? (i := 52) rfl)) (hw _ (List.mem_of_getElem? (i := 3) rfl)) (by decide) (by decide)) q264a q264c (g := (mkF m 185 #[.val (.int p1), .val (.int p2), .val (.int p3), .val (.int p4), .val (.int p5), .val (.int s0), .val (.int s1), .val (.int s2), .val (.int (3 : Int32)), .val (.int b0), .val (.int b1), .val (.int b2), .val (.int bp), .val (.int pr), .val (.ref b15), .unset, .unset, .unset, .unset, .unset] [(.int b2), (.int s2), (.ref b15)])) rfl (by rw [hml]; rfl) (Steps.refl _) (argsL := [(.int s2), (.int b2)]) (rest := []) (lenOf pd__IZ_V rfl) rfl (by show 2 * 0 + _ ≤ _; exact Nat.le_of_eq rfl) (hb hby at_185) (fun _ _ => ⟨rfl, rfl, (by decide : 11 + 0 ≤ _), (by decide : 48 + 0 ≤ _)⟩)
    dsimp only [Pt.U, Pt.locs, Pt.cells, Pt.slots] at X264 l264 y264 z264 st264 hQ264
    subst l264 y264 z264
    obtain ⟨rfl, N264q, Kn39, Sn39⟩ := hQ264
    have N264 := Fr.app N260 N264q
    have K265 : Keep h0 T264.heap [] := K261.trans Kn39 (allS (Or.inr sz_b15) (allS (Or.inr sz_ae) (allS (Or.inr sz_am) all0)))
    have E266 : Exa Z T264.heap b15 "com/example/ariadne/ariadne/algo/SplitSearch" := E263.keep Kn39
    obtain ⟨re3, hre3⟩ : ∃ z : List Int32, z = own_re s2 b2 ((0 + 1) + 1) fm2 re2 := ⟨_, rfl⟩
    rw [← hre3] at Sn39
    obtain ⟨rm3, hrm3⟩ : ∃ z : List Int32, z = (rm2 : List Int32).set s2.toNatClampNeg ((0 + 1) + 1) := ⟨_, rfl⟩
    rw [← hrm3] at Sn39
    have lre3 : re3.length = 3 := by rw [hre3, own_re_len]; exact lre2
    have lrm3 : rm3.length = 3 := by rw [hrm3, List.length_set]; exact lrm2
    obtain ⟨fm3, hfm3⟩ : ∃ z : Int32, z = own_fm b2 fm2 := ⟨_, rfl⟩
    rw [← hfm3] at Sn39
    have E267 : Exa Z T264.heap b15 "com/example/ariadne/ariadne/algo/SplitSearch" := Sn39.1
    have k268 : ∀ t, Steps p.tables e below (T264.setTop (mkF m 190 #[.val (.int p1), .val (.int p2), .val (.int p3), .val (.int p4), .val (.int p5), .val (.int s0), .val (.int s1), .val (.int s2), .val (.int (3 : Int32)), .val (.int b0), .val (.int b1), .val (.int b2), .val (.int bp), .val (.int pr), .val (.ref b15), .unset, .unset, .unset, .unset, .unset] [(.int (3 : Int32))])) t → Steps p.tables e below (s₁.setTop (entryFrame m #[(.int p1), (.int p2), (.int p3), (.int p4), (.int p5)] maxLocals)) t := fun t k => k180 t (by
      show Steps p.tables e below (T176.setTop (mkF m 146 #[.val (.int p1), .val (.int p2), .val (.int p3), .val (.int p4), .val (.int p5), .val (.int s0), .val (.int s1), .val (.int s2), .val (.int (3 : Int32)), .val (.int b0), .val (.int b1), .val (.int b2), .val (.int bp), .val (.int pr), .val (.ref b15), .unset, .unset, .unset, .unset, .unset] [(.int (3 : Int32))])) _
      refine XS.ifNo X176.here hx rfl (hb hby at_146) rfl ((if0 _ _).trans (tlt (by decide)).2.2.2) ?_
      show Steps p.tables e below (T176.setTop (mkF m 149 #[.val (.int p1), .val (.int p2), .val (.int p3), .val (.int p4), .val (.int p5), .val (.int s0), .val (.int s1), .val (.int s2), .val (.int (3 : Int32)), .val (.int b0), .val (.int b1), .val (.int b2), .val (.int bp), .val (.int pr), .val (.ref b15), .unset, .unset, .unset, .unset, .unset] [])) _
      refine XS.aload X176.here hx rfl (hb hby at_149) rfl rfl ?_
      show Steps p.tables e below (T176.setTop (mkF m 151 #[.val (.int p1), .val (.int p2), .val (.int p3), .val (.int p4), .val (.int p5), .val (.int s0), .val (.int s1), .val (.int s2), .val (.int (3 : Int32)), .val (.int b0), .val (.int b1), .val (.int b2), .val (.int bp), .val (.int pr), .val (.ref b15), .unset, .unset, .unset, .unset, .unset] [(.ref b15)])) _
      refine XS.iload X176.here hx rfl (hb hby at_151) rfl ?_
      show Steps p.tables e below (T176.setTop (mkF m 153 #[.val (.int p1), .val (.int p2), .val (.int p3), .val (.int p4), .val (.int p5), .val (.int s0), .val (.int s1), .val (.int s2), .val (.int (3 : Int32)), .val (.int b0), .val (.int b1), .val (.int b2), .val (.int bp), .val (.int pr), .val (.ref b15), .unset, .unset, .unset, .unset, .unset] [(.int s0), (.ref b15)])) _
      refine XS.iload X176.here hx rfl (hb hby at_153) rfl ?_
      show Steps p.tables e below (T176.setTop (mkF m 155 #[.val (.int p1), .val (.int p2), .val (.int p3), .val (.int p4), .val (.int p5), .val (.int s0), .val (.int s1), .val (.int s2), .val (.int (3 : Int32)), .val (.int b0), .val (.int b1), .val (.int b2), .val (.int bp), .val (.int pr), .val (.ref b15), .unset, .unset, .unset, .unset, .unset] [(.int b0), (.int s0), (.ref b15)])) _
      refine st256.trans ?_
      show Steps p.tables e below (T256.setTop (mkF m 158 #[.val (.int p1), .val (.int p2), .val (.int p3), .val (.int p4), .val (.int p5), .val (.int s0), .val (.int s1), .val (.int s2), .val (.int (3 : Int32)), .val (.int b0), .val (.int b1), .val (.int b2), .val (.int bp), .val (.int pr), .val (.ref b15), .unset, .unset, .unset, .unset, .unset] [])) _
      refine XS.iload X256.here hx rfl (hb hby at_158) rfl ?_
      show Steps p.tables e below (T256.setTop (mkF m 160 #[.val (.int p1), .val (.int p2), .val (.int p3), .val (.int p4), .val (.int p5), .val (.int s0), .val (.int s1), .val (.int s2), .val (.int (3 : Int32)), .val (.int b0), .val (.int b1), .val (.int b2), .val (.int bp), .val (.int pr), .val (.ref b15), .unset, .unset, .unset, .unset, .unset] [(.int (3 : Int32))])) _
      refine XS.iconst X256.here hx rfl (hb hby at_160) ?_
      show Steps p.tables e below (T256.setTop (mkF m 161 #[.val (.int p1), .val (.int p2), .val (.int p3), .val (.int p4), .val (.int p5), .val (.int s0), .val (.int s1), .val (.int s2), .val (.int (3 : Int32)), .val (.int b0), .val (.int b1), .val (.int b2), .val (.int bp), .val (.int pr), .val (.ref b15), .unset, .unset, .unset, .unset, .unset] [(.int (1 : Int32)), (.int (3 : Int32))])) _
      refine XS.icmpNo X256.here hx rfl (hb hby at_161) rfl (tlt (by decide)).2.2.2 ?_
      show Steps p.tables e below (T256.setTop (mkF m 164 #[.val (.int p1), .val (.int p2), .val (.int p3), .val (.int p4), .val (.int p5), .val (.int s0), .val (.int s1), .val (.int s2), .val (.int (3 : Int32)), .val (.int b0), .val (.int b1), .val (.int b2), .val (.int bp), .val (.int pr), .val (.ref b15), .unset, .unset, .unset, .unset, .unset] [])) _
      refine XS.aload X256.here hx rfl (hb hby at_164) rfl rfl ?_
      show Steps p.tables e below (T256.setTop (mkF m 166 #[.val (.int p1), .val (.int p2), .val (.int p3), .val (.int p4), .val (.int p5), .val (.int s0), .val (.int s1), .val (.int s2), .val (.int (3 : Int32)), .val (.int b0), .val (.int b1), .val (.int b2), .val (.int bp), .val (.int pr), .val (.ref b15), .unset, .unset, .unset, .unset, .unset] [(.ref b15)])) _
      refine XS.iload X256.here hx rfl (hb hby at_166) rfl ?_
      show Steps p.tables e below (T256.setTop (mkF m 168 #[.val (.int p1), .val (.int p2), .val (.int p3), .val (.int p4), .val (.int p5), .val (.int s0), .val (.int s1), .val (.int s2), .val (.int (3 : Int32)), .val (.int b0), .val (.int b1), .val (.int b2), .val (.int bp), .val (.int pr), .val (.ref b15), .unset, .unset, .unset, .unset, .unset] [(.int s1), (.ref b15)])) _
      refine XS.iload X256.here hx rfl (hb hby at_168) rfl ?_
      show Steps p.tables e below (T256.setTop (mkF m 170 #[.val (.int p1), .val (.int p2), .val (.int p3), .val (.int p4), .val (.int p5), .val (.int s0), .val (.int s1), .val (.int s2), .val (.int (3 : Int32)), .val (.int b0), .val (.int b1), .val (.int b2), .val (.int bp), .val (.int pr), .val (.ref b15), .unset, .unset, .unset, .unset, .unset] [(.int b1), (.int s1), (.ref b15)])) _
      refine st260.trans ?_
      show Steps p.tables e below (T260.setTop (mkF m 173 #[.val (.int p1), .val (.int p2), .val (.int p3), .val (.int p4), .val (.int p5), .val (.int s0), .val (.int s1), .val (.int s2), .val (.int (3 : Int32)), .val (.int b0), .val (.int b1), .val (.int b2), .val (.int bp), .val (.int pr), .val (.ref b15), .unset, .unset, .unset, .unset, .unset] [])) _
      refine XS.iload X260.here hx rfl (hb hby at_173) rfl ?_
      show Steps p.tables e below (T260.setTop (mkF m 175 #[.val (.int p1), .val (.int p2), .val (.int p3), .val (.int p4), .val (.int p5), .val (.int s0), .val (.int s1), .val (.int s2), .val (.int (3 : Int32)), .val (.int b0), .val (.int b1), .val (.int b2), .val (.int bp), .val (.int pr), .val (.ref b15), .unset, .unset, .unset, .unset, .unset] [(.int (3 : Int32))])) _
      refine XS.iconst X260.here hx rfl (hb hby at_175) ?_
      show Steps p.tables e below (T260.setTop (mkF m 176 #[.val (.int p1), .val (.int p2), .val (.int p3), .val (.int p4), .val (.int p5), .val (.int s0), .val (.int s1), .val (.int s2), .val (.int (3 : Int32)), .val (.int b0), .val (.int b1), .val (.int b2), .val (.int bp), .val (.int pr), .val (.ref b15), .unset, .unset, .unset, .unset, .unset] [(.int (2 : Int32)), (.int (3 : Int32))])) _
      refine XS.icmpNo X260.here hx rfl (hb hby at_176) rfl (tlt (by decide)).2.2.2 ?_
      show Steps p.tables e below (T260.setTop (mkF m 179 #[.val (.int p1), .val (.int p2), .val (.int p3), .val (.int p4), .val (.int p5), .val (.int s0), .val (.int s1), .val (.int s2), .val (.int (3 : Int32)), .val (.int b0), .val (.int b1), .val (.int b2), .val (.int bp), .val (.int pr), .val (.ref b15), .unset, .unset, .unset, .unset, .unset] [])) _
      refine XS.aload X260.here hx rfl (hb hby at_179) rfl rfl ?_
      show Steps p.tables e below (T260.setTop (mkF m 181 #[.val (.int p1), .val (.int p2), .val (.int p3), .val (.int p4), .val (.int p5), .val (.int s0), .val (.int s1), .val (.int s2), .val (.int (3 : Int32)), .val (.int b0), .val (.int b1), .val (.int b2), .val (.int bp), .val (.int pr), .val (.ref b15), .unset, .unset, .unset, .unset, .unset] [(.ref b15)])) _
      refine XS.iload X260.here hx rfl (hb hby at_181) rfl ?_
      show Steps p.tables e below (T260.setTop (mkF m 183 #[.val (.int p1), .val (.int p2), .val (.int p3), .val (.int p4), .val (.int p5), .val (.int s0), .val (.int s1), .val (.int s2), .val (.int (3 : Int32)), .val (.int b0), .val (.int b1), .val (.int b2), .val (.int bp), .val (.int pr), .val (.ref b15), .unset, .unset, .unset, .unset, .unset] [(.int s2), (.ref b15)])) _
      refine XS.iload X260.here hx rfl (hb hby at_183) rfl ?_
      show Steps p.tables e below (T260.setTop (mkF m 185 #[.val (.int p1), .val (.int p2), .val (.int p3), .val (.int p4), .val (.int p5), .val (.int s0), .val (.int s1), .val (.int s2), .val (.int (3 : Int32)), .val (.int b0), .val (.int b1), .val (.int b2), .val (.int bp), .val (.int pr), .val (.ref b15), .unset, .unset, .unset, .unset, .unset] [(.int b2), (.int s2), (.ref b15)])) _
      refine st264.trans ?_
      show Steps p.tables e below (T264.setTop (mkF m 188 #[.val (.int p1), .val (.int p2), .val (.int p3), .val (.int p4), .val (.int p5), .val (.int s0), .val (.int s1), .val (.int s2), .val (.int (3 : Int32)), .val (.int b0), .val (.int b1), .val (.int b2), .val (.int bp), .val (.int pr), .val (.ref b15), .unset, .unset, .unset, .unset, .unset] [])) _
      refine XS.iload X264.here hx rfl (hb hby at_188) rfl ?_
      exact k)
    obtain ⟨x0, hd_x0⟩ : ∃ z : Int32, z = (if b0 = (0 : Int32) then (0 : Int32) else (1 : Int32)) := ⟨_, rfl⟩
    have k269 : ∀ t, Steps p.tables e below (T264.setTop (mkF m 203 #[.val (.int p1), .val (.int p2), .val (.int p3), .val (.int p4), .val (.int p5), .val (.int s0), .val (.int s1), .val (.int s2), .val (.int (3 : Int32)), .val (.int b0), .val (.int b1), .val (.int b2), .val (.int bp), .val (.int pr), .val (.ref b15), .unset, .unset, .unset, .unset, .unset] [(.int x0)])) t → Steps p.tables e below (s₁.setTop (entryFrame m #[(.int p1), (.int p2), (.int p3), (.int p4), (.int p5)] maxLocals)) t := fun t k => k268 t (by
      show Steps p.tables e below (T264.setTop (mkF m 190 #[.val (.int p1), .val (.int p2), .val (.int p3), .val (.int p4), .val (.int p5), .val (.int s0), .val (.int s1), .val (.int s2), .val (.int (3 : Int32)), .val (.int b0), .val (.int b1), .val (.int b2), .val (.int bp), .val (.int pr), .val (.ref b15), .unset, .unset, .unset, .unset, .unset] [(.int (3 : Int32))])) _
      refine XS.ifNo X264.here hx rfl (hb hby at_190) rfl ((if0 _ _).trans (tlt (by decide)).2.2.2) ?_
      show Steps p.tables e below (T264.setTop (mkF m 193 #[.val (.int p1), .val (.int p2), .val (.int p3), .val (.int p4), .val (.int p5), .val (.int s0), .val (.int s1), .val (.int s2), .val (.int (3 : Int32)), .val (.int b0), .val (.int b1), .val (.int b2), .val (.int bp), .val (.int pr), .val (.ref b15), .unset, .unset, .unset, .unset, .unset] [])) _
      refine XS.iload X264.here hx rfl (hb hby at_193) rfl ?_
      by_cases c195 : b0 = (0 : Int32)
      ·
        show Steps p.tables e below (T264.setTop (mkF m 195 #[.val (.int p1), .val (.int p2), .val (.int p3), .val (.int p4), .val (.int p5), .val (.int s0), .val (.int s1), .val (.int s2), .val (.int (3 : Int32)), .val (.int b0), .val (.int b1), .val (.int b2), .val (.int bp), .val (.int pr), .val (.ref b15), .unset, .unset, .unset, .unset, .unset] [(.int b0)])) _
        refine XS.ifYes X264.here hx rfl (pc0 := 195) (pc' := 202) rfl (hb hby at_195) rfl ((if0 _ _).trans (teq c195).1) (by decide) (by decide) ?_
        show Steps p.tables e below (T264.setTop (mkF m 202 #[.val (.int p1), .val (.int p2), .val (.int p3), .val (.int p4), .val (.int p5), .val (.int s0), .val (.int s1), .val (.int s2), .val (.int (3 : Int32)), .val (.int b0), .val (.int b1), .val (.int b2), .val (.int bp), .val (.int pr), .val (.ref b15), .unset, .unset, .unset, .unset, .unset] [])) _
        refine XS.iconst X264.here hx rfl (hb hby at_202) ?_
        simp only [if_pos c195] at hd_x0
        rw [hd_x0] at k
        exact k
      ·
        show Steps p.tables e below (T264.setTop (mkF m 195 #[.val (.int p1), .val (.int p2), .val (.int p3), .val (.int p4), .val (.int p5), .val (.int s0), .val (.int s1), .val (.int s2), .val (.int (3 : Int32)), .val (.int b0), .val (.int b1), .val (.int b2), .val (.int bp), .val (.int pr), .val (.ref b15), .unset, .unset, .unset, .unset, .unset] [(.int b0)])) _
        refine XS.ifNo X264.here hx rfl (hb hby at_195) rfl ((if0 _ _).trans (feq c195).1) ?_
        show Steps p.tables e below (T264.setTop (mkF m 198 #[.val (.int p1), .val (.int p2), .val (.int p3), .val (.int p4), .val (.int p5), .val (.int s0), .val (.int s1), .val (.int s2), .val (.int (3 : Int32)), .val (.int b0), .val (.int b1), .val (.int b2), .val (.int bp), .val (.int pr), .val (.ref b15), .unset, .unset, .unset, .unset, .unset] [])) _
        refine XS.iconst X264.here hx rfl (hb hby at_198) ?_
        show Steps p.tables e below (T264.setTop (mkF m 199 #[.val (.int p1), .val (.int p2), .val (.int p3), .val (.int p4), .val (.int p5), .val (.int s0), .val (.int s1), .val (.int s2), .val (.int (3 : Int32)), .val (.int b0), .val (.int b1), .val (.int b2), .val (.int bp), .val (.int pr), .val (.ref b15), .unset, .unset, .unset, .unset, .unset] [(.int (1 : Int32))])) _
        refine XS.goto X264.here hx rfl (pc0 := 199) (pc' := 203) rfl (hb hby at_199) (by decide) (by decide) ?_
        simp only [if_neg c195] at hd_x0
        rw [hd_x0] at k
        exact k)
    have k270 : ∀ t, Steps p.tables e below (T264.setTop (mkF m 206 #[.val (.int p1), .val (.int p2), .val (.int p3), .val (.int p4), .val (.int p5), .val (.int s0), .val (.int s1), .val (.int s2), .val (.int (3 : Int32)), .val (.int b0), .val (.int b1), .val (.int b2), .val (.int bp), .val (.int pr), .val (.ref b15), .unset, .unset, .unset, .unset, .unset] [(.int (1 : Int32)), (.int (3 : Int32)), (.int x0)])) t → Steps p.tables e below (s₁.setTop (entryFrame m #[(.int p1), (.int p2), (.int p3), (.int p4), (.int p5)] maxLocals)) t := fun t k => k269 t (by
      show Steps p.tables e below (T264.setTop (mkF m 203 #[.val (.int p1), .val (.int p2), .val (.int p3), .val (.int p4), .val (.int p5), .val (.int s0), .val (.int s1), .val (.int s2), .val (.int (3 : Int32)), .val (.int b0), .val (.int b1), .val (.int b2), .val (.int bp), .val (.int pr), .val (.ref b15), .unset, .unset, .unset, .unset, .unset] [(.int x0)])) _
      refine XS.iload X264.here hx rfl (hb hby at_203) rfl ?_
      show Steps p.tables e below (T264.setTop (mkF m 205 #[.val (.int p1), .val (.int p2), .val (.int p3), .val (.int p4), .val (.int p5), .val (.int s0), .val (.int s1), .val (.int s2), .val (.int (3 : Int32)), .val (.int b0), .val (.int b1), .val (.int b2), .val (.int bp), .val (.int pr), .val (.ref b15), .unset, .unset, .unset, .unset, .unset] [(.int (3 : Int32)), (.int x0)])) _
      refine XS.iconst X264.here hx rfl (hb hby at_205) ?_
      exact k)
    obtain ⟨x1, hd_x1⟩ : ∃ z : Int32, z = (if b1 = (0 : Int32) then (0 : Int32) else (1 : Int32)) := ⟨_, rfl⟩
    have k271 : ∀ t, Steps p.tables e below (T264.setTop (mkF m 219 #[.val (.int p1), .val (.int p2), .val (.int p3), .val (.int p4), .val (.int p5), .val (.int s0), .val (.int s1), .val (.int s2), .val (.int (3 : Int32)), .val (.int b0), .val (.int b1), .val (.int b2), .val (.int bp), .val (.int pr), .val (.ref b15), .unset, .unset, .unset, .unset, .unset] [(.int x1), (.int x0)])) t → Steps p.tables e below (s₁.setTop (entryFrame m #[(.int p1), (.int p2), (.int p3), (.int p4), (.int p5)] maxLocals)) t := fun t k => k270 t (by
      show Steps p.tables e below (T264.setTop (mkF m 206 #[.val (.int p1), .val (.int p2), .val (.int p3), .val (.int p4), .val (.int p5), .val (.int s0), .val (.int s1), .val (.int s2), .val (.int (3 : Int32)), .val (.int b0), .val (.int b1), .val (.int b2), .val (.int bp), .val (.int pr), .val (.ref b15), .unset, .unset, .unset, .unset, .unset] [(.int (1 : Int32)), (.int (3 : Int32)), (.int x0)])) _
      refine XS.icmpNo X264.here hx rfl (hb hby at_206) rfl (tlt (by decide)).2.2.2 ?_
      show Steps p.tables e below (T264.setTop (mkF m 209 #[.val (.int p1), .val (.int p2), .val (.int p3), .val (.int p4), .val (.int p5), .val (.int s0), .val (.int s1), .val (.int s2), .val (.int (3 : Int32)), .val (.int b0), .val (.int b1), .val (.int b2), .val (.int bp), .val (.int pr), .val (.ref b15), .unset, .unset, .unset, .unset, .unset] [(.int x0)])) _
      refine XS.iload X264.here hx rfl (hb hby at_209) rfl ?_
      by_cases c211 : b1 = (0 : Int32)
      ·
        show Steps p.tables e below (T264.setTop (mkF m 211 #[.val (.int p1), .val (.int p2), .val (.int p3), .val (.int p4), .val (.int p5), .val (.int s0), .val (.int s1), .val (.int s2), .val (.int (3 : Int32)), .val (.int b0), .val (.int b1), .val (.int b2), .val (.int bp), .val (.int pr), .val (.ref b15), .unset, .unset, .unset, .unset, .unset] [(.int b1), (.int x0)])) _
        refine XS.ifYes X264.here hx rfl (pc0 := 211) (pc' := 218) rfl (hb hby at_211) rfl ((if0 _ _).trans (teq c211).1) (by decide) (by decide) ?_
        show Steps p.tables e below (T264.setTop (mkF m 218 #[.val (.int p1), .val (.int p2), .val (.int p3), .val (.int p4), .val (.int p5), .val (.int s0), .val (.int s1), .val (.int s2), .val (.int (3 : Int32)), .val (.int b0), .val (.int b1), .val (.int b2), .val (.int bp), .val (.int pr), .val (.ref b15), .unset, .unset, .unset, .unset, .unset] [(.int x0)])) _
        refine XS.iconst X264.here hx rfl (hb hby at_218) ?_
        simp only [if_pos c211] at hd_x1
        rw [hd_x1] at k
        exact k
      ·
        show Steps p.tables e below (T264.setTop (mkF m 211 #[.val (.int p1), .val (.int p2), .val (.int p3), .val (.int p4), .val (.int p5), .val (.int s0), .val (.int s1), .val (.int s2), .val (.int (3 : Int32)), .val (.int b0), .val (.int b1), .val (.int b2), .val (.int bp), .val (.int pr), .val (.ref b15), .unset, .unset, .unset, .unset, .unset] [(.int b1), (.int x0)])) _
        refine XS.ifNo X264.here hx rfl (hb hby at_211) rfl ((if0 _ _).trans (feq c211).1) ?_
        show Steps p.tables e below (T264.setTop (mkF m 214 #[.val (.int p1), .val (.int p2), .val (.int p3), .val (.int p4), .val (.int p5), .val (.int s0), .val (.int s1), .val (.int s2), .val (.int (3 : Int32)), .val (.int b0), .val (.int b1), .val (.int b2), .val (.int bp), .val (.int pr), .val (.ref b15), .unset, .unset, .unset, .unset, .unset] [(.int x0)])) _
        refine XS.iconst X264.here hx rfl (hb hby at_214) ?_
        show Steps p.tables e below (T264.setTop (mkF m 215 #[.val (.int p1), .val (.int p2), .val (.int p3), .val (.int p4), .val (.int p5), .val (.int s0), .val (.int s1), .val (.int s2), .val (.int (3 : Int32)), .val (.int b0), .val (.int b1), .val (.int b2), .val (.int bp), .val (.int pr), .val (.ref b15), .unset, .unset, .unset, .unset, .unset] [(.int (1 : Int32)), (.int x0)])) _
        refine XS.goto X264.here hx rfl (pc0 := 215) (pc' := 219) rfl (hb hby at_215) (by decide) (by decide) ?_
        simp only [if_neg c211] at hd_x1
        rw [hd_x1] at k
        exact k)
    have k272 : ∀ t, Steps p.tables e below (T264.setTop (mkF m 223 #[.val (.int p1), .val (.int p2), .val (.int p3), .val (.int p4), .val (.int p5), .val (.int s0), .val (.int s1), .val (.int s2), .val (.int (3 : Int32)), .val (.int b0), .val (.int b1), .val (.int b2), .val (.int bp), .val (.int pr), .val (.ref b15), .unset, .unset, .unset, .unset, .unset] [(.int (2 : Int32)), (.int (3 : Int32)), (.int (x0 + x1))])) t → Steps p.tables e below (s₁.setTop (entryFrame m #[(.int p1), (.int p2), (.int p3), (.int p4), (.int p5)] maxLocals)) t := fun t k => k271 t (by
      show Steps p.tables e below (T264.setTop (mkF m 219 #[.val (.int p1), .val (.int p2), .val (.int p3), .val (.int p4), .val (.int p5), .val (.int s0), .val (.int s1), .val (.int s2), .val (.int (3 : Int32)), .val (.int b0), .val (.int b1), .val (.int b2), .val (.int bp), .val (.int pr), .val (.ref b15), .unset, .unset, .unset, .unset, .unset] [(.int x1), (.int x0)])) _
      refine XS.iadd X264.here hx rfl (hb hby at_219) rfl ?_
      show Steps p.tables e below (T264.setTop (mkF m 220 #[.val (.int p1), .val (.int p2), .val (.int p3), .val (.int p4), .val (.int p5), .val (.int s0), .val (.int s1), .val (.int s2), .val (.int (3 : Int32)), .val (.int b0), .val (.int b1), .val (.int b2), .val (.int bp), .val (.int pr), .val (.ref b15), .unset, .unset, .unset, .unset, .unset] [(.int (x0 + x1))])) _
      refine XS.iload X264.here hx rfl (hb hby at_220) rfl ?_
      show Steps p.tables e below (T264.setTop (mkF m 222 #[.val (.int p1), .val (.int p2), .val (.int p3), .val (.int p4), .val (.int p5), .val (.int s0), .val (.int s1), .val (.int s2), .val (.int (3 : Int32)), .val (.int b0), .val (.int b1), .val (.int b2), .val (.int bp), .val (.int pr), .val (.ref b15), .unset, .unset, .unset, .unset, .unset] [(.int (3 : Int32)), (.int (x0 + x1))])) _
      refine XS.iconst X264.here hx rfl (hb hby at_222) ?_
      exact k)
    obtain ⟨x2, hd_x2⟩ : ∃ z : Int32, z = (if b2 = (0 : Int32) then (0 : Int32) else (1 : Int32)) := ⟨_, rfl⟩
    have k273 : ∀ t, Steps p.tables e below (T264.setTop (mkF m 236 #[.val (.int p1), .val (.int p2), .val (.int p3), .val (.int p4), .val (.int p5), .val (.int s0), .val (.int s1), .val (.int s2), .val (.int (3 : Int32)), .val (.int b0), .val (.int b1), .val (.int b2), .val (.int bp), .val (.int pr), .val (.ref b15), .unset, .unset, .unset, .unset, .unset] [(.int x2), (.int (x0 + x1))])) t → Steps p.tables e below (s₁.setTop (entryFrame m #[(.int p1), (.int p2), (.int p3), (.int p4), (.int p5)] maxLocals)) t := fun t k => k272 t (by
      show Steps p.tables e below (T264.setTop (mkF m 223 #[.val (.int p1), .val (.int p2), .val (.int p3), .val (.int p4), .val (.int p5), .val (.int s0), .val (.int s1), .val (.int s2), .val (.int (3 : Int32)), .val (.int b0), .val (.int b1), .val (.int b2), .val (.int bp), .val (.int pr), .val (.ref b15), .unset, .unset, .unset, .unset, .unset] [(.int (2 : Int32)), (.int (3 : Int32)), (.int (x0 + x1))])) _
      refine XS.icmpNo X264.here hx rfl (hb hby at_223) rfl (tlt (by decide)).2.2.2 ?_
      show Steps p.tables e below (T264.setTop (mkF m 226 #[.val (.int p1), .val (.int p2), .val (.int p3), .val (.int p4), .val (.int p5), .val (.int s0), .val (.int s1), .val (.int s2), .val (.int (3 : Int32)), .val (.int b0), .val (.int b1), .val (.int b2), .val (.int bp), .val (.int pr), .val (.ref b15), .unset, .unset, .unset, .unset, .unset] [(.int (x0 + x1))])) _
      refine XS.iload X264.here hx rfl (hb hby at_226) rfl ?_
      by_cases c228 : b2 = (0 : Int32)
      ·
        show Steps p.tables e below (T264.setTop (mkF m 228 #[.val (.int p1), .val (.int p2), .val (.int p3), .val (.int p4), .val (.int p5), .val (.int s0), .val (.int s1), .val (.int s2), .val (.int (3 : Int32)), .val (.int b0), .val (.int b1), .val (.int b2), .val (.int bp), .val (.int pr), .val (.ref b15), .unset, .unset, .unset, .unset, .unset] [(.int b2), (.int (x0 + x1))])) _
        refine XS.ifYes X264.here hx rfl (pc0 := 228) (pc' := 235) rfl (hb hby at_228) rfl ((if0 _ _).trans (teq c228).1) (by decide) (by decide) ?_
        show Steps p.tables e below (T264.setTop (mkF m 235 #[.val (.int p1), .val (.int p2), .val (.int p3), .val (.int p4), .val (.int p5), .val (.int s0), .val (.int s1), .val (.int s2), .val (.int (3 : Int32)), .val (.int b0), .val (.int b1), .val (.int b2), .val (.int bp), .val (.int pr), .val (.ref b15), .unset, .unset, .unset, .unset, .unset] [(.int (x0 + x1))])) _
        refine XS.iconst X264.here hx rfl (hb hby at_235) ?_
        simp only [if_pos c228] at hd_x2
        rw [hd_x2] at k
        exact k
      ·
        show Steps p.tables e below (T264.setTop (mkF m 228 #[.val (.int p1), .val (.int p2), .val (.int p3), .val (.int p4), .val (.int p5), .val (.int s0), .val (.int s1), .val (.int s2), .val (.int (3 : Int32)), .val (.int b0), .val (.int b1), .val (.int b2), .val (.int bp), .val (.int pr), .val (.ref b15), .unset, .unset, .unset, .unset, .unset] [(.int b2), (.int (x0 + x1))])) _
        refine XS.ifNo X264.here hx rfl (hb hby at_228) rfl ((if0 _ _).trans (feq c228).1) ?_
        show Steps p.tables e below (T264.setTop (mkF m 231 #[.val (.int p1), .val (.int p2), .val (.int p3), .val (.int p4), .val (.int p5), .val (.int s0), .val (.int s1), .val (.int s2), .val (.int (3 : Int32)), .val (.int b0), .val (.int b1), .val (.int b2), .val (.int bp), .val (.int pr), .val (.ref b15), .unset, .unset, .unset, .unset, .unset] [(.int (x0 + x1))])) _
        refine XS.iconst X264.here hx rfl (hb hby at_231) ?_
        show Steps p.tables e below (T264.setTop (mkF m 232 #[.val (.int p1), .val (.int p2), .val (.int p3), .val (.int p4), .val (.int p5), .val (.int s0), .val (.int s1), .val (.int s2), .val (.int (3 : Int32)), .val (.int b0), .val (.int b1), .val (.int b2), .val (.int bp), .val (.int pr), .val (.ref b15), .unset, .unset, .unset, .unset, .unset] [(.int (1 : Int32)), (.int (x0 + x1))])) _
        refine XS.goto X264.here hx rfl (pc0 := 232) (pc' := 236) rfl (hb hby at_232) (by decide) (by decide) ?_
        simp only [if_neg c228] at hd_x2
        rw [hd_x2] at k
        exact k)
    have k274 : ∀ t, Steps p.tables e below (T264.setTop (mkF m 239 #[.val (.int p1), .val (.int p2), .val (.int p3), .val (.int p4), .val (.int p5), .val (.int s0), .val (.int s1), .val (.int s2), .val (.int (3 : Int32)), .val (.int b0), .val (.int b1), .val (.int b2), .val (.int bp), .val (.int pr), .val (.ref b15), .val (.int ((x0 + x1) + x2)), .unset, .unset, .unset, .unset] [])) t → Steps p.tables e below (s₁.setTop (entryFrame m #[(.int p1), (.int p2), (.int p3), (.int p4), (.int p5)] maxLocals)) t := fun t k => k273 t (by
      show Steps p.tables e below (T264.setTop (mkF m 236 #[.val (.int p1), .val (.int p2), .val (.int p3), .val (.int p4), .val (.int p5), .val (.int s0), .val (.int s1), .val (.int s2), .val (.int (3 : Int32)), .val (.int b0), .val (.int b1), .val (.int b2), .val (.int bp), .val (.int pr), .val (.ref b15), .unset, .unset, .unset, .unset, .unset] [(.int x2), (.int (x0 + x1))])) _
      refine XS.iadd X264.here hx rfl (hb hby at_236) rfl ?_
      show Steps p.tables e below (T264.setTop (mkF m 237 #[.val (.int p1), .val (.int p2), .val (.int p3), .val (.int p4), .val (.int p5), .val (.int s0), .val (.int s1), .val (.int s2), .val (.int (3 : Int32)), .val (.int b0), .val (.int b1), .val (.int b2), .val (.int bp), .val (.int pr), .val (.ref b15), .unset, .unset, .unset, .unset, .unset] [(.int ((x0 + x1) + x2))])) _
      refine XS.istore X264.here hx rfl (hb hby at_237) rfl (l' := #[.val (.int p1), .val (.int p2), .val (.int p3), .val (.int p4), .val (.int p5), .val (.int s0), .val (.int s1), .val (.int s2), .val (.int (3 : Int32)), .val (.int b0), .val (.int b1), .val (.int b2), .val (.int bp), .val (.int pr), .val (.ref b15), .val (.int ((x0 + x1) + x2)), .unset, .unset, .unset, .unset]) rfl ?_
      exact k)
    obtain ⟨fc, hd_fc⟩ : ∃ z : Int32, z = ((x0 + x1) + x2) := ⟨_, rfl⟩
    have k275 : ∀ t, Steps p.tables e below (T264.setTop (mkF m 239 #[.val (.int p1), .val (.int p2), .val (.int p3), .val (.int p4), .val (.int p5), .val (.int s0), .val (.int s1), .val (.int s2), .val (.int (3 : Int32)), .val (.int b0), .val (.int b1), .val (.int b2), .val (.int bp), .val (.int pr), .val (.ref b15), .val (.int fc), .unset, .unset, .unset, .unset] [])) t → Steps p.tables e below (s₁.setTop (entryFrame m #[(.int p1), (.int p2), (.int p3), (.int p4), (.int p5)] maxLocals)) t := by rw [hd_fc]; exact k274
    rw [hd_x0, hd_x1, hd_x2] at hd_fc
    have FF := own_fin3 (dd := p4) hs0 hy hpr hb0 hb1 hb2 hbp f0 f1 f2 hd_s1 hd_s2 hd_fc hre0 hrm0 hre1 hrm1 hfm1 hre2 hrm2 hfm2 hre3 hrm3 hfm3
    obtain ⟨pl0, pl1, pl2, r01, r02, r12, im0, im1, im2⟩ := FF
    obtain ⟨E_o, F_e, F_m, F_r, F_c, F_f, F_t, V_e, V_m⟩ := Sn39
    obtain ⟨cq276, kq276, q276a, q276b, q276c⟩ := isOf hZ rfl E267
    obtain ⟨_, _, ⟨T276, L276, kk276, n276⟩, -, X276, ⟨Lc276, hQ276, l276, y276, z276⟩, st276⟩ := X264.virtualBack hx (y := (⟨"com/example/ariadne/ariadne/algo/SplitSearch", "markedCount", "()I"⟩ : MethodName)) (z := (⟨"com/example/ariadne/ariadne/algo/SplitSearch", "markedCount", "()I"⟩ : MethodName)) hown (mvT hZ (hw _ (List.mem_of_getElem? (i := 53) rfl))) (mvT hZ (hw _ (List.mem_of_getElem? (i := 54) rfl))) (notFace_of_selects (args := #[]) (mvT hZ (hw _ (List.mem_of_getElem? (i := 56) rfl)))) (mvT hZ (hw _ (List.mem_of_getElem? (i := 56) rfl))) (mvT hZ (hw _ (List.mem_of_getElem? (i := 55) rfl))) (by decide) (backOf (W := 0) (rm_count l Z a0 hw [] b15 (((0 + 1) + 1) + 1) T264.heap n0 (Nat.le_trans Z0 K265.1) F_c) hZ (hw _ (List.mem_of_getElem? (i := 57) rfl)) (hw _ (List.mem_of_getElem? (i := 3) rfl)) (by decide) (by decide)) q276a q276c (g := (mkF m 241 #[.val (.int p1), .val (.int p2), .val (.int p3), .val (.int p4), .val (.int p5), .val (.int s0), .val (.int s1), .val (.int s2), .val (.int (3 : Int32)), .val (.int b0), .val (.int b1), .val (.int b2), .val (.int bp), .val (.int pr), .val (.ref b15), .val (.int fc), .unset, .unset, .unset, .unset] [(.ref b15)])) rfl (by rw [hml]; rfl) (Steps.refl _) (argsL := []) (rest := []) (lenOf pd___I rfl) rfl (by show 2 * 0 + _ ≤ _; exact Nat.le_of_eq rfl) (hb hby at_241) (fun _ _ => ⟨rfl, rfl, (by decide : 11 + 0 ≤ _), (by decide : 48 + 0 ≤ _)⟩)
    dsimp only [Pt.U, Pt.locs, Pt.cells, Pt.slots] at X276 l276 y276 z276 st276 hQ276
    subst l276 y276 z276
    obtain ⟨rfl, N276q, hc_⟩ := hQ276
    have N276 := Fr.app N264 N276q
    obtain ⟨cq277, kq277, q277a, q277b, q277c⟩ := isOf hZ hc_ E267
    obtain ⟨_, _, ⟨T277, L277, kk277, n277⟩, -, X277, ⟨Lc277, hQ277, l277, y277, z277⟩, st277⟩ := X276.virtualBack hx (y := (⟨"com/example/ariadne/ariadne/algo/SplitSearch", "marked", "(I)I"⟩ : MethodName)) (z := (⟨"com/example/ariadne/ariadne/algo/SplitSearch", "marked", "(I)I"⟩ : MethodName)) hown (mvT hZ (hw _ (List.mem_of_getElem? (i := 58) rfl))) (mvT hZ (hw _ (List.mem_of_getElem? (i := 59) rfl))) (notFace_of_selects (args := #[]) (mvT hZ (hw _ (List.mem_of_getElem? (i := 61) rfl)))) (mvT hZ (hw _ (List.mem_of_getElem? (i := 61) rfl))) (mvT hZ (hw _ (List.mem_of_getElem? (i := 60) rfl))) (by decide) (backOf (W := 0) (rm_marked l Z a0 hw [] b15 (0 : Int32) ae ke re3 T264.heap n0 (Nat.le_trans Z0 K265.1) F_e V_e (by decide)) hZ (hw _ (List.mem_of_getElem? (i := 62) rfl)) (hw _ (List.mem_of_getElem? (i := 3) rfl)) (by decide) (by decide)) q277a q277c (g := (mkF m 264 #[.val (.int p1), .val (.int p2), .val (.int p3), .val (.int p4), .val (.int p5), .val (.int s0), .val (.int s1), .val (.int s2), .val (.int (3 : Int32)), .val (.int b0), .val (.int b1), .val (.int b2), .val (.int bp), .val (.int pr), .val (.ref b15), .val (.int fc), .val (.int (1 : Int32)), .unset, .unset, .unset] [(.int (0 : Int32)), (.ref b15)])) rfl (by rw [hml]; rfl) (Steps.refl _) (argsL := [(.int (0 : Int32))]) (rest := []) (lenOf pd__I_I rfl) rfl (by show 2 * 0 + _ ≤ _; exact Nat.le_of_eq rfl) (hb hby at_264) (fun _ _ => ⟨rfl, hc_, (by decide : 11 + 0 ≤ _), (by decide : 48 + 0 ≤ _)⟩)
    dsimp only [Pt.U, Pt.locs, Pt.cells, Pt.slots] at X277 l277 y277 z277 st277 hQ277
    subst l277 y277 z277
    obtain ⟨rfl, N277q, hm40⟩ := hQ277
    have N277 := Fr.app N276 N277q
    obtain ⟨cq278, kq278, q278a, q278b, q278c⟩ := isOf hZ hm40 E267
    obtain ⟨_, _, ⟨T278, L278, kk278, n278⟩, -, X278, ⟨Lc278, hQ278, l278, y278, z278⟩, st278⟩ := X277.virtualBack hx (y := (⟨"com/example/ariadne/ariadne/algo/SplitSearch", "marked", "(I)I"⟩ : MethodName)) (z := (⟨"com/example/ariadne/ariadne/algo/SplitSearch", "marked", "(I)I"⟩ : MethodName)) hown (mvT hZ (hw _ (List.mem_of_getElem? (i := 58) rfl))) (mvT hZ (hw _ (List.mem_of_getElem? (i := 59) rfl))) (notFace_of_selects (args := #[]) (mvT hZ (hw _ (List.mem_of_getElem? (i := 61) rfl)))) (mvT hZ (hw _ (List.mem_of_getElem? (i := 61) rfl))) (mvT hZ (hw _ (List.mem_of_getElem? (i := 60) rfl))) (by decide) (backOf (W := 0) (rm_marked l Z a0 hw [] b15 (1 : Int32) ae ke re3 T264.heap n0 (Nat.le_trans Z0 K265.1) F_e V_e (by decide)) hZ (hw _ (List.mem_of_getElem? (i := 62) rfl)) (hw _ (List.mem_of_getElem? (i := 3) rfl)) (by decide) (by decide)) q278a q278c (g := (mkF m 282 #[.val (.int p1), .val (.int p2), .val (.int p3), .val (.int p4), .val (.int p5), .val (.int s0), .val (.int s1), .val (.int s2), .val (.int (3 : Int32)), .val (.int b0), .val (.int b1), .val (.int b2), .val (.int bp), .val (.int pr), .val (.ref b15), .val (.int fc), .val (.int (1 : Int32)), .val (.int (re3.getD (0 : Int32).toNatClampNeg 0)), .unset, .unset] [(.int (1 : Int32)), (.ref b15)])) rfl (by rw [hml]; rfl) (Steps.refl _) (argsL := [(.int (1 : Int32))]) (rest := []) (lenOf pd__I_I rfl) rfl (by show 2 * 0 + _ ≤ _; exact Nat.le_of_eq rfl) (hb hby at_282) (fun _ _ => ⟨rfl, hm40, (by decide : 11 + 0 ≤ _), (by decide : 48 + 0 ≤ _)⟩)
    dsimp only [Pt.U, Pt.locs, Pt.cells, Pt.slots] at X278 l278 y278 z278 st278 hQ278
    subst l278 y278 z278
    obtain ⟨rfl, N278q, hm41⟩ := hQ278
    have N278 := Fr.app N277 N278q
    obtain ⟨cq279, kq279, q279a, q279b, q279c⟩ := isOf hZ hm41 E267
    obtain ⟨_, _, ⟨T279, L279, kk279, n279⟩, -, X279, ⟨Lc279, hQ279, l279, y279, z279⟩, st279⟩ := X278.virtualBack hx (y := (⟨"com/example/ariadne/ariadne/algo/SplitSearch", "marked", "(I)I"⟩ : MethodName)) (z := (⟨"com/example/ariadne/ariadne/algo/SplitSearch", "marked", "(I)I"⟩ : MethodName)) hown (mvT hZ (hw _ (List.mem_of_getElem? (i := 58) rfl))) (mvT hZ (hw _ (List.mem_of_getElem? (i := 59) rfl))) (notFace_of_selects (args := #[]) (mvT hZ (hw _ (List.mem_of_getElem? (i := 61) rfl)))) (mvT hZ (hw _ (List.mem_of_getElem? (i := 61) rfl))) (mvT hZ (hw _ (List.mem_of_getElem? (i := 60) rfl))) (by decide) (backOf (W := 0) (rm_marked l Z a0 hw [] b15 (2 : Int32) ae ke re3 T264.heap n0 (Nat.le_trans Z0 K265.1) F_e V_e (by decide)) hZ (hw _ (List.mem_of_getElem? (i := 62) rfl)) (hw _ (List.mem_of_getElem? (i := 3) rfl)) (by decide) (by decide)) q279a q279c (g := (mkF m 300 #[.val (.int p1), .val (.int p2), .val (.int p3), .val (.int p4), .val (.int p5), .val (.int s0), .val (.int s1), .val (.int s2), .val (.int (3 : Int32)), .val (.int b0), .val (.int b1), .val (.int b2), .val (.int bp), .val (.int pr), .val (.ref b15), .val (.int fc), .val (.int (1 : Int32)), .val (.int (re3.getD (0 : Int32).toNatClampNeg 0)), .val (.int (re3.getD (1 : Int32).toNatClampNeg 0)), .unset] [(.int (2 : Int32)), (.ref b15)])) rfl (by rw [hml]; rfl) (Steps.refl _) (argsL := [(.int (2 : Int32))]) (rest := []) (lenOf pd__I_I rfl) rfl (by show 2 * 0 + _ ≤ _; exact Nat.le_of_eq rfl) (hb hby at_300) (fun _ _ => ⟨rfl, hm41, (by decide : 11 + 0 ≤ _), (by decide : 48 + 0 ≤ _)⟩)
    dsimp only [Pt.U, Pt.locs, Pt.cells, Pt.slots] at X279 l279 y279 z279 st279 hQ279
    subst l279 y279 z279
    obtain ⟨rfl, N279q, hm42⟩ := hQ279
    have N279 := Fr.app N278 N279q
    obtain ⟨_, _, ⟨T280, L280, kk280, n280⟩, -, X280, ⟨Lc280, hQ280, l280, y280, z280⟩, st280⟩ := Jvm.LawKit.callS X279 hx (y := (⟨"com/example/ariadne/ariadne/algo/SplitSearchMarkPinLaw", "placeOk", "(IIIIIIII)Z"⟩ : MethodName)) hown (mvT hZ (hw _ (List.mem_of_getElem? (i := 63) rfl))) (mvT hZ (hw _ (List.mem_of_getElem? (i := 64) rfl))) (mvT hZ (hw _ (List.mem_of_getElem? (i := 65) rfl))) (mvT hZ (hw _ (List.mem_of_getElem? (i := 66) rfl))) (by decide) (backOf (W := 0) (rm_placeOk l Z a0 hw [] (0 : Int32) (re3.getD (0 : Int32).toNatClampNeg 0) (3 : Int32) fc s0 s1 s2 p4 T264.heap n0 (Nat.le_trans Z0 K265.1)) hZ (hw _ (List.mem_of_getElem? (i := 66) rfl)) (hw _ (List.mem_of_getElem? (i := 65) rfl)) (by decide) (by decide)) (g := (mkF m 328 #[.val (.int p1), .val (.int p2), .val (.int p3), .val (.int p4), .val (.int p5), .val (.int s0), .val (.int s1), .val (.int s2), .val (.int (3 : Int32)), .val (.int b0), .val (.int b1), .val (.int b2), .val (.int bp), .val (.int pr), .val (.ref b15), .val (.int fc), .val (.int (1 : Int32)), .val (.int (re3.getD (0 : Int32).toNatClampNeg 0)), .val (.int (re3.getD (1 : Int32).toNatClampNeg 0)), .val (.int (re3.getD (2 : Int32).toNatClampNeg 0))] [(.int p4), (.int s2), (.int s1), (.int s0), (.int fc), (.int (3 : Int32)), (.int (re3.getD (0 : Int32).toNatClampNeg 0)), (.int (0 : Int32))])) rfl (by rw [hml]; rfl) (argsL := [(.int (0 : Int32)), (.int (re3.getD (0 : Int32).toNatClampNeg 0)), (.int (3 : Int32)), (.int fc), (.int s0), (.int s1), (.int s2), (.int p4)]) (rest := []) (lenOf pd__IIIIIIII_Z rfl) rfl (by show 2 * 0 + _ ≤ _; exact Nat.le_of_eq rfl) (hb hby at_328) (fun _ _ => ⟨rfl, hm42, (by decide : 11 + 0 ≤ _), (by decide : 48 + 0 ≤ _)⟩)
    dsimp only [Pt.U, Pt.locs, Pt.cells, Pt.slots] at X280 l280 y280 z280 st280 hQ280
    subst l280 y280 z280
    obtain ⟨rfl, N280q, hp43⟩ := hQ280
    have N280 := Fr.app N279 N280q
    obtain ⟨_, _, ⟨T281, L281, kk281, n281⟩, -, X281, ⟨Lc281, hQ281, l281, y281, z281⟩, st281⟩ := Jvm.LawKit.callS X280 hx (y := (⟨"com/example/ariadne/ariadne/algo/SplitSearchMarkPinLaw", "placeOk", "(IIIIIIII)Z"⟩ : MethodName)) hown (mvT hZ (hw _ (List.mem_of_getElem? (i := 63) rfl))) (mvT hZ (hw _ (List.mem_of_getElem? (i := 64) rfl))) (mvT hZ (hw _ (List.mem_of_getElem? (i := 65) rfl))) (mvT hZ (hw _ (List.mem_of_getElem? (i := 66) rfl))) (by decide) (backOf (W := 0) (rm_placeOk l Z a0 hw [] (1 : Int32) (re3.getD (1 : Int32).toNatClampNeg 0) (3 : Int32) fc s0 s1 s2 p4 T264.heap n0 (Nat.le_trans Z0 K265.1)) hZ (hw _ (List.mem_of_getElem? (i := 66) rfl)) (hw _ (List.mem_of_getElem? (i := 65) rfl)) (by decide) (by decide)) (g := (mkF m 360 #[.val (.int p1), .val (.int p2), .val (.int p3), .val (.int p4), .val (.int p5), .val (.int s0), .val (.int s1), .val (.int s2), .val (.int (3 : Int32)), .val (.int b0), .val (.int b1), .val (.int b2), .val (.int bp), .val (.int pr), .val (.ref b15), .val (.int fc), .val (.int (1 : Int32)), .val (.int (re3.getD (0 : Int32).toNatClampNeg 0)), .val (.int (re3.getD (1 : Int32).toNatClampNeg 0)), .val (.int (re3.getD (2 : Int32).toNatClampNeg 0))] [(.int p4), (.int s2), (.int s1), (.int s0), (.int fc), (.int (3 : Int32)), (.int (re3.getD (1 : Int32).toNatClampNeg 0)), (.int (1 : Int32))])) rfl (by rw [hml]; rfl) (argsL := [(.int (1 : Int32)), (.int (re3.getD (1 : Int32).toNatClampNeg 0)), (.int (3 : Int32)), (.int fc), (.int s0), (.int s1), (.int s2), (.int p4)]) (rest := []) (lenOf pd__IIIIIIII_Z rfl) rfl (by show 2 * 0 + _ ≤ _; exact Nat.le_of_eq rfl) (hb hby at_360) (fun _ _ => ⟨rfl, hp43, (by decide : 11 + 0 ≤ _), (by decide : 48 + 0 ≤ _)⟩)
    dsimp only [Pt.U, Pt.locs, Pt.cells, Pt.slots] at X281 l281 y281 z281 st281 hQ281
    subst l281 y281 z281
    obtain ⟨rfl, N281q, hp44⟩ := hQ281
    have N281 := Fr.app N280 N281q
    obtain ⟨_, _, ⟨T282, L282, kk282, n282⟩, -, X282, ⟨Lc282, hQ282, l282, y282, z282⟩, st282⟩ := Jvm.LawKit.callS X281 hx (y := (⟨"com/example/ariadne/ariadne/algo/SplitSearchMarkPinLaw", "placeOk", "(IIIIIIII)Z"⟩ : MethodName)) hown (mvT hZ (hw _ (List.mem_of_getElem? (i := 63) rfl))) (mvT hZ (hw _ (List.mem_of_getElem? (i := 64) rfl))) (mvT hZ (hw _ (List.mem_of_getElem? (i := 65) rfl))) (mvT hZ (hw _ (List.mem_of_getElem? (i := 66) rfl))) (by decide) (backOf (W := 0) (rm_placeOk l Z a0 hw [] (2 : Int32) (re3.getD (2 : Int32).toNatClampNeg 0) (3 : Int32) fc s0 s1 s2 p4 T264.heap n0 (Nat.le_trans Z0 K265.1)) hZ (hw _ (List.mem_of_getElem? (i := 66) rfl)) (hw _ (List.mem_of_getElem? (i := 65) rfl)) (by decide) (by decide)) (g := (mkF m 392 #[.val (.int p1), .val (.int p2), .val (.int p3), .val (.int p4), .val (.int p5), .val (.int s0), .val (.int s1), .val (.int s2), .val (.int (3 : Int32)), .val (.int b0), .val (.int b1), .val (.int b2), .val (.int bp), .val (.int pr), .val (.ref b15), .val (.int fc), .val (.int (1 : Int32)), .val (.int (re3.getD (0 : Int32).toNatClampNeg 0)), .val (.int (re3.getD (1 : Int32).toNatClampNeg 0)), .val (.int (re3.getD (2 : Int32).toNatClampNeg 0))] [(.int p4), (.int s2), (.int s1), (.int s0), (.int fc), (.int (3 : Int32)), (.int (re3.getD (2 : Int32).toNatClampNeg 0)), (.int (2 : Int32))])) rfl (by rw [hml]; rfl) (argsL := [(.int (2 : Int32)), (.int (re3.getD (2 : Int32).toNatClampNeg 0)), (.int (3 : Int32)), (.int fc), (.int s0), (.int s1), (.int s2), (.int p4)]) (rest := []) (lenOf pd__IIIIIIII_Z rfl) rfl (by show 2 * 0 + _ ≤ _; exact Nat.le_of_eq rfl) (hb hby at_392) (fun _ _ => ⟨rfl, hp44, (by decide : 11 + 0 ≤ _), (by decide : 48 + 0 ≤ _)⟩)
    dsimp only [Pt.U, Pt.locs, Pt.cells, Pt.slots] at X282 l282 y282 z282 st282 hQ282
    subst l282 y282 z282
    obtain ⟨rfl, N282q, hp45⟩ := hQ282
    have N282 := Fr.app N281 N282q
    obtain ⟨cq283, kq283, q283a, q283b, q283c⟩ := isOf hZ hp45 E267
    obtain ⟨_, _, ⟨T283, L283, kk283, n283⟩, -, X283, ⟨Lc283, hQ283, l283, y283, z283⟩, st283⟩ := X282.virtualBack hx (y := (⟨"com/example/ariadne/ariadne/algo/SplitSearch", "isMarked", "(I)Z"⟩ : MethodName)) (z := (⟨"com/example/ariadne/ariadne/algo/SplitSearch", "isMarked", "(I)Z"⟩ : MethodName)) hown (mvT hZ (hw _ (List.mem_of_getElem? (i := 67) rfl))) (mvT hZ (hw _ (List.mem_of_getElem? (i := 68) rfl))) (notFace_of_selects (args := #[]) (mvT hZ (hw _ (List.mem_of_getElem? (i := 70) rfl)))) (mvT hZ (hw _ (List.mem_of_getElem? (i := 70) rfl))) (mvT hZ (hw _ (List.mem_of_getElem? (i := 69) rfl))) (by decide) (backOf (W := 0) (rm_isMarked l Z a0 hw [] b15 (0 : Int32) am km rm3 ((0 + 1) + 1) T264.heap n0 (Nat.le_trans Z0 K265.1) F_m F_r V_m (by decide)) hZ (hw _ (List.mem_of_getElem? (i := 71) rfl)) (hw _ (List.mem_of_getElem? (i := 3) rfl)) (by decide) (by decide)) q283a q283c (g := (mkF m 470 #[.val (.int p1), .val (.int p2), .val (.int p3), .val (.int p4), .val (.int p5), .val (.int s0), .val (.int s1), .val (.int s2), .val (.int (3 : Int32)), .val (.int b0), .val (.int b1), .val (.int b2), .val (.int bp), .val (.int pr), .val (.ref b15), .val (.int fc), .val (.int (1 : Int32)), .val (.int (re3.getD (0 : Int32).toNatClampNeg 0)), .val (.int (re3.getD (1 : Int32).toNatClampNeg 0)), .val (.int (re3.getD (2 : Int32).toNatClampNeg 0))] [(.int (0 : Int32)), (.ref b15)])) rfl (by rw [hml]; rfl) (Steps.refl _) (argsL := [(.int (0 : Int32))]) (rest := []) (lenOf pd__I_Z rfl) rfl (by show 2 * 0 + _ ≤ _; exact Nat.le_of_eq rfl) (hb hby at_470) (fun _ _ => ⟨rfl, hp45, (by decide : 11 + 0 ≤ _), (by decide : 48 + 0 ≤ _)⟩)
    dsimp only [Pt.U, Pt.locs, Pt.cells, Pt.slots] at X283 l283 y283 z283 st283 hQ283
    subst l283 y283 z283
    obtain ⟨rfl, N283q, hi46⟩ := hQ283
    have N283 := Fr.app N282 N283q
    obtain ⟨_, _, ⟨T284, L284, kk284, n284⟩, -, X284, ⟨Lc284, hQ284, l284, y284, z284⟩, st284⟩ := Jvm.LawKit.callS X283 hx (y := (⟨"com/example/ariadne/ariadne/algo/SplitSearchMarkPinLaw", "expectedMarked", "(IIIII)Z"⟩ : MethodName)) hown (mvT hZ (hw _ (List.mem_of_getElem? (i := 72) rfl))) (mvT hZ (hw _ (List.mem_of_getElem? (i := 73) rfl))) (mvT hZ (hw _ (List.mem_of_getElem? (i := 65) rfl))) (mvT hZ (hw _ (List.mem_of_getElem? (i := 74) rfl))) (by decide) (backOf (W := 1) (rm_expected l Z a0 hw [] (0 : Int32) (3 : Int32) s0 s1 s2 T264.heap n0 (Nat.le_trans Z0 K265.1)) hZ (hw _ (List.mem_of_getElem? (i := 74) rfl)) (hw _ (List.mem_of_getElem? (i := 65) rfl)) (by decide) (by decide)) (g := (mkF m 482 #[.val (.int p1), .val (.int p2), .val (.int p3), .val (.int p4), .val (.int p5), .val (.int s0), .val (.int s1), .val (.int s2), .val (.int (3 : Int32)), .val (.int b0), .val (.int b1), .val (.int b2), .val (.int bp), .val (.int pr), .val (.ref b15), .val (.int fc), .val (.int (1 : Int32)), .val (.int (re3.getD (0 : Int32).toNatClampNeg 0)), .val (.int (re3.getD (1 : Int32).toNatClampNeg 0)), .val (.int (re3.getD (2 : Int32).toNatClampNeg 0))] [(.int s2), (.int s1), (.int s0), (.int (3 : Int32)), (.int (0 : Int32)), (.int (own_ism (0 : Int32) rm3 ((0 + 1) + 1)))])) rfl (by rw [hml]; rfl) (argsL := [(.int (0 : Int32)), (.int (3 : Int32)), (.int s0), (.int s1), (.int s2)]) (rest := [(.int (own_ism (0 : Int32) rm3 ((0 + 1) + 1)))]) (lenOf pd__IIIII_Z rfl) rfl (by show 2 * 0 + _ ≤ _; exact Nat.le_of_eq rfl) (hb hby at_482) (fun _ _ => ⟨rfl, hi46, (by decide : 11 + 0 ≤ _), (by decide : 48 + 0 ≤ _)⟩)
    dsimp only [Pt.U, Pt.locs, Pt.cells, Pt.slots] at X284 l284 y284 z284 st284 hQ284
    subst l284 y284 z284
    obtain ⟨rfl, N284q, he47⟩ := hQ284
    have N284 := Fr.app N283 N284q
    obtain ⟨cq285, kq285, q285a, q285b, q285c⟩ := isOf hZ he47 E267
    obtain ⟨_, _, ⟨T285, L285, kk285, n285⟩, -, X285, ⟨Lc285, hQ285, l285, y285, z285⟩, st285⟩ := X284.virtualBack hx (y := (⟨"com/example/ariadne/ariadne/algo/SplitSearch", "isMarked", "(I)Z"⟩ : MethodName)) (z := (⟨"com/example/ariadne/ariadne/algo/SplitSearch", "isMarked", "(I)Z"⟩ : MethodName)) hown (mvT hZ (hw _ (List.mem_of_getElem? (i := 67) rfl))) (mvT hZ (hw _ (List.mem_of_getElem? (i := 68) rfl))) (notFace_of_selects (args := #[]) (mvT hZ (hw _ (List.mem_of_getElem? (i := 70) rfl)))) (mvT hZ (hw _ (List.mem_of_getElem? (i := 70) rfl))) (mvT hZ (hw _ (List.mem_of_getElem? (i := 69) rfl))) (by decide) (backOf (W := 0) (rm_isMarked l Z a0 hw [] b15 (1 : Int32) am km rm3 ((0 + 1) + 1) T264.heap n0 (Nat.le_trans Z0 K265.1) F_m F_r V_m (by decide)) hZ (hw _ (List.mem_of_getElem? (i := 71) rfl)) (hw _ (List.mem_of_getElem? (i := 3) rfl)) (by decide) (by decide)) q285a q285c (g := (mkF m 503 #[.val (.int p1), .val (.int p2), .val (.int p3), .val (.int p4), .val (.int p5), .val (.int s0), .val (.int s1), .val (.int s2), .val (.int (3 : Int32)), .val (.int b0), .val (.int b1), .val (.int b2), .val (.int bp), .val (.int pr), .val (.ref b15), .val (.int fc), .val (.int (1 : Int32)), .val (.int (re3.getD (0 : Int32).toNatClampNeg 0)), .val (.int (re3.getD (1 : Int32).toNatClampNeg 0)), .val (.int (re3.getD (2 : Int32).toNatClampNeg 0))] [(.int (1 : Int32)), (.ref b15)])) rfl (by rw [hml]; rfl) (Steps.refl _) (argsL := [(.int (1 : Int32))]) (rest := []) (lenOf pd__I_Z rfl) rfl (by show 2 * 0 + _ ≤ _; exact Nat.le_of_eq rfl) (hb hby at_503) (fun _ _ => ⟨rfl, he47, (by decide : 11 + 0 ≤ _), (by decide : 48 + 0 ≤ _)⟩)
    dsimp only [Pt.U, Pt.locs, Pt.cells, Pt.slots] at X285 l285 y285 z285 st285 hQ285
    subst l285 y285 z285
    obtain ⟨rfl, N285q, hi48⟩ := hQ285
    have N285 := Fr.app N284 N285q
    obtain ⟨_, _, ⟨T286, L286, kk286, n286⟩, -, X286, ⟨Lc286, hQ286, l286, y286, z286⟩, st286⟩ := Jvm.LawKit.callS X285 hx (y := (⟨"com/example/ariadne/ariadne/algo/SplitSearchMarkPinLaw", "expectedMarked", "(IIIII)Z"⟩ : MethodName)) hown (mvT hZ (hw _ (List.mem_of_getElem? (i := 72) rfl))) (mvT hZ (hw _ (List.mem_of_getElem? (i := 73) rfl))) (mvT hZ (hw _ (List.mem_of_getElem? (i := 65) rfl))) (mvT hZ (hw _ (List.mem_of_getElem? (i := 74) rfl))) (by decide) (backOf (W := 1) (rm_expected l Z a0 hw [] (1 : Int32) (3 : Int32) s0 s1 s2 T264.heap n0 (Nat.le_trans Z0 K265.1)) hZ (hw _ (List.mem_of_getElem? (i := 74) rfl)) (hw _ (List.mem_of_getElem? (i := 65) rfl)) (by decide) (by decide)) (g := (mkF m 515 #[.val (.int p1), .val (.int p2), .val (.int p3), .val (.int p4), .val (.int p5), .val (.int s0), .val (.int s1), .val (.int s2), .val (.int (3 : Int32)), .val (.int b0), .val (.int b1), .val (.int b2), .val (.int bp), .val (.int pr), .val (.ref b15), .val (.int fc), .val (.int (1 : Int32)), .val (.int (re3.getD (0 : Int32).toNatClampNeg 0)), .val (.int (re3.getD (1 : Int32).toNatClampNeg 0)), .val (.int (re3.getD (2 : Int32).toNatClampNeg 0))] [(.int s2), (.int s1), (.int s0), (.int (3 : Int32)), (.int (1 : Int32)), (.int (own_ism (1 : Int32) rm3 ((0 + 1) + 1)))])) rfl (by rw [hml]; rfl) (argsL := [(.int (1 : Int32)), (.int (3 : Int32)), (.int s0), (.int s1), (.int s2)]) (rest := [(.int (own_ism (1 : Int32) rm3 ((0 + 1) + 1)))]) (lenOf pd__IIIII_Z rfl) rfl (by show 2 * 0 + _ ≤ _; exact Nat.le_of_eq rfl) (hb hby at_515) (fun _ _ => ⟨rfl, hi48, (by decide : 11 + 0 ≤ _), (by decide : 48 + 0 ≤ _)⟩)
    dsimp only [Pt.U, Pt.locs, Pt.cells, Pt.slots] at X286 l286 y286 z286 st286 hQ286
    subst l286 y286 z286
    obtain ⟨rfl, N286q, he49⟩ := hQ286
    have N286 := Fr.app N285 N286q
    obtain ⟨cq287, kq287, q287a, q287b, q287c⟩ := isOf hZ he49 E267
    obtain ⟨_, _, ⟨T287, L287, kk287, n287⟩, -, X287, ⟨Lc287, hQ287, l287, y287, z287⟩, st287⟩ := X286.virtualBack hx (y := (⟨"com/example/ariadne/ariadne/algo/SplitSearch", "isMarked", "(I)Z"⟩ : MethodName)) (z := (⟨"com/example/ariadne/ariadne/algo/SplitSearch", "isMarked", "(I)Z"⟩ : MethodName)) hown (mvT hZ (hw _ (List.mem_of_getElem? (i := 67) rfl))) (mvT hZ (hw _ (List.mem_of_getElem? (i := 68) rfl))) (notFace_of_selects (args := #[]) (mvT hZ (hw _ (List.mem_of_getElem? (i := 70) rfl)))) (mvT hZ (hw _ (List.mem_of_getElem? (i := 70) rfl))) (mvT hZ (hw _ (List.mem_of_getElem? (i := 69) rfl))) (by decide) (backOf (W := 0) (rm_isMarked l Z a0 hw [] b15 (2 : Int32) am km rm3 ((0 + 1) + 1) T264.heap n0 (Nat.le_trans Z0 K265.1) F_m F_r V_m (by decide)) hZ (hw _ (List.mem_of_getElem? (i := 71) rfl)) (hw _ (List.mem_of_getElem? (i := 3) rfl)) (by decide) (by decide)) q287a q287c (g := (mkF m 536 #[.val (.int p1), .val (.int p2), .val (.int p3), .val (.int p4), .val (.int p5), .val (.int s0), .val (.int s1), .val (.int s2), .val (.int (3 : Int32)), .val (.int b0), .val (.int b1), .val (.int b2), .val (.int bp), .val (.int pr), .val (.ref b15), .val (.int fc), .val (.int (1 : Int32)), .val (.int (re3.getD (0 : Int32).toNatClampNeg 0)), .val (.int (re3.getD (1 : Int32).toNatClampNeg 0)), .val (.int (re3.getD (2 : Int32).toNatClampNeg 0))] [(.int (2 : Int32)), (.ref b15)])) rfl (by rw [hml]; rfl) (Steps.refl _) (argsL := [(.int (2 : Int32))]) (rest := []) (lenOf pd__I_Z rfl) rfl (by show 2 * 0 + _ ≤ _; exact Nat.le_of_eq rfl) (hb hby at_536) (fun _ _ => ⟨rfl, he49, (by decide : 11 + 0 ≤ _), (by decide : 48 + 0 ≤ _)⟩)
    dsimp only [Pt.U, Pt.locs, Pt.cells, Pt.slots] at X287 l287 y287 z287 st287 hQ287
    subst l287 y287 z287
    obtain ⟨rfl, N287q, hi50⟩ := hQ287
    have N287 := Fr.app N286 N287q
    obtain ⟨_, _, ⟨T288, L288, kk288, n288⟩, -, X288, ⟨Lc288, hQ288, l288, y288, z288⟩, st288⟩ := Jvm.LawKit.callS X287 hx (y := (⟨"com/example/ariadne/ariadne/algo/SplitSearchMarkPinLaw", "expectedMarked", "(IIIII)Z"⟩ : MethodName)) hown (mvT hZ (hw _ (List.mem_of_getElem? (i := 72) rfl))) (mvT hZ (hw _ (List.mem_of_getElem? (i := 73) rfl))) (mvT hZ (hw _ (List.mem_of_getElem? (i := 65) rfl))) (mvT hZ (hw _ (List.mem_of_getElem? (i := 74) rfl))) (by decide) (backOf (W := 1) (rm_expected l Z a0 hw [] (2 : Int32) (3 : Int32) s0 s1 s2 T264.heap n0 (Nat.le_trans Z0 K265.1)) hZ (hw _ (List.mem_of_getElem? (i := 74) rfl)) (hw _ (List.mem_of_getElem? (i := 65) rfl)) (by decide) (by decide)) (g := (mkF m 548 #[.val (.int p1), .val (.int p2), .val (.int p3), .val (.int p4), .val (.int p5), .val (.int s0), .val (.int s1), .val (.int s2), .val (.int (3 : Int32)), .val (.int b0), .val (.int b1), .val (.int b2), .val (.int bp), .val (.int pr), .val (.ref b15), .val (.int fc), .val (.int (1 : Int32)), .val (.int (re3.getD (0 : Int32).toNatClampNeg 0)), .val (.int (re3.getD (1 : Int32).toNatClampNeg 0)), .val (.int (re3.getD (2 : Int32).toNatClampNeg 0))] [(.int s2), (.int s1), (.int s0), (.int (3 : Int32)), (.int (2 : Int32)), (.int (own_ism (2 : Int32) rm3 ((0 + 1) + 1)))])) rfl (by rw [hml]; rfl) (argsL := [(.int (2 : Int32)), (.int (3 : Int32)), (.int s0), (.int s1), (.int s2)]) (rest := [(.int (own_ism (2 : Int32) rm3 ((0 + 1) + 1)))]) (lenOf pd__IIIII_Z rfl) rfl (by show 2 * 0 + _ ≤ _; exact Nat.le_of_eq rfl) (hb hby at_548) (fun _ _ => ⟨rfl, hi50, (by decide : 11 + 0 ≤ _), (by decide : 48 + 0 ≤ _)⟩)
    dsimp only [Pt.U, Pt.locs, Pt.cells, Pt.slots] at X288 l288 y288 z288 st288 hQ288
    subst l288 y288 z288
    obtain ⟨rfl, N288q, he51⟩ := hQ288
    have N288 := Fr.app N287 N288q
    have k290 : ∀ t, Steps p.tables e below (T288.setTop (mkF m 563 #[.val (.int p1), .val (.int p2), .val (.int p3), .val (.int p4), .val (.int p5), .val (.int s0), .val (.int s1), .val (.int s2), .val (.int (3 : Int32)), .val (.int b0), .val (.int b1), .val (.int b2), .val (.int bp), .val (.int pr), .val (.ref b15), .val (.int fc), .val (.int (1 : Int32)), .val (.int (re3.getD (0 : Int32).toNatClampNeg 0)), .val (.int (re3.getD (1 : Int32).toNatClampNeg 0)), .val (.int (re3.getD (2 : Int32).toNatClampNeg 0))] [(.int (1 : Int32))])) t → Steps p.tables e below (s₁.setTop (entryFrame m #[(.int p1), (.int p2), (.int p3), (.int p4), (.int p5)] maxLocals)) t := fun t k => k275 t (by
      show Steps p.tables e below (T264.setTop (mkF m 239 #[.val (.int p1), .val (.int p2), .val (.int p3), .val (.int p4), .val (.int p5), .val (.int s0), .val (.int s1), .val (.int s2), .val (.int (3 : Int32)), .val (.int b0), .val (.int b1), .val (.int b2), .val (.int bp), .val (.int pr), .val (.ref b15), .val (.int fc), .unset, .unset, .unset, .unset] [])) _
      refine XS.aload X264.here hx rfl (hb hby at_239) rfl rfl ?_
      show Steps p.tables e below (T264.setTop (mkF m 241 #[.val (.int p1), .val (.int p2), .val (.int p3), .val (.int p4), .val (.int p5), .val (.int s0), .val (.int s1), .val (.int s2), .val (.int (3 : Int32)), .val (.int b0), .val (.int b1), .val (.int b2), .val (.int bp), .val (.int pr), .val (.ref b15), .val (.int fc), .unset, .unset, .unset, .unset] [(.ref b15)])) _
      refine st276.trans ?_
      show Steps p.tables e below (T276.setTop (mkF m 244 #[.val (.int p1), .val (.int p2), .val (.int p3), .val (.int p4), .val (.int p5), .val (.int s0), .val (.int s1), .val (.int s2), .val (.int (3 : Int32)), .val (.int b0), .val (.int b1), .val (.int b2), .val (.int bp), .val (.int pr), .val (.ref b15), .val (.int fc), .unset, .unset, .unset, .unset] [(.int (((0 + 1) + 1) + 1))])) _
      refine XS.iload X276.here hx rfl (hb hby at_244) rfl ?_
      show Steps p.tables e below (T276.setTop (mkF m 246 #[.val (.int p1), .val (.int p2), .val (.int p3), .val (.int p4), .val (.int p5), .val (.int s0), .val (.int s1), .val (.int s2), .val (.int (3 : Int32)), .val (.int b0), .val (.int b1), .val (.int b2), .val (.int bp), .val (.int pr), .val (.ref b15), .val (.int fc), .unset, .unset, .unset, .unset] [(.int (3 : Int32)), (.int (((0 + 1) + 1) + 1))])) _
      refine XS.icmpNo X276.here hx rfl (hb hby at_246) rfl (teq (by decide)).2 ?_
      show Steps p.tables e below (T276.setTop (mkF m 249 #[.val (.int p1), .val (.int p2), .val (.int p3), .val (.int p4), .val (.int p5), .val (.int s0), .val (.int s1), .val (.int s2), .val (.int (3 : Int32)), .val (.int b0), .val (.int b1), .val (.int b2), .val (.int bp), .val (.int pr), .val (.ref b15), .val (.int fc), .unset, .unset, .unset, .unset] [])) _
      refine XS.iconst X276.here hx rfl (hb hby at_249) ?_
      show Steps p.tables e below (T276.setTop (mkF m 250 #[.val (.int p1), .val (.int p2), .val (.int p3), .val (.int p4), .val (.int p5), .val (.int s0), .val (.int s1), .val (.int s2), .val (.int (3 : Int32)), .val (.int b0), .val (.int b1), .val (.int b2), .val (.int bp), .val (.int pr), .val (.ref b15), .val (.int fc), .unset, .unset, .unset, .unset] [(.int (1 : Int32))])) _
      refine XS.goto X276.here hx rfl (pc0 := 250) (pc' := 254) rfl (hb hby at_250) (by decide) (by decide) ?_
      show Steps p.tables e below (T276.setTop (mkF m 254 #[.val (.int p1), .val (.int p2), .val (.int p3), .val (.int p4), .val (.int p5), .val (.int s0), .val (.int s1), .val (.int s2), .val (.int (3 : Int32)), .val (.int b0), .val (.int b1), .val (.int b2), .val (.int bp), .val (.int pr), .val (.ref b15), .val (.int fc), .unset, .unset, .unset, .unset] [(.int (1 : Int32))])) _
      refine XS.istore X276.here hx rfl (hb hby at_254) rfl (l' := #[.val (.int p1), .val (.int p2), .val (.int p3), .val (.int p4), .val (.int p5), .val (.int s0), .val (.int s1), .val (.int s2), .val (.int (3 : Int32)), .val (.int b0), .val (.int b1), .val (.int b2), .val (.int bp), .val (.int pr), .val (.ref b15), .val (.int fc), .val (.int (1 : Int32)), .unset, .unset, .unset]) rfl ?_
      show Steps p.tables e below (T276.setTop (mkF m 256 #[.val (.int p1), .val (.int p2), .val (.int p3), .val (.int p4), .val (.int p5), .val (.int s0), .val (.int s1), .val (.int s2), .val (.int (3 : Int32)), .val (.int b0), .val (.int b1), .val (.int b2), .val (.int bp), .val (.int pr), .val (.ref b15), .val (.int fc), .val (.int (1 : Int32)), .unset, .unset, .unset] [])) _
      refine XS.iload X276.here hx rfl (hb hby at_256) rfl ?_
      show Steps p.tables e below (T276.setTop (mkF m 258 #[.val (.int p1), .val (.int p2), .val (.int p3), .val (.int p4), .val (.int p5), .val (.int s0), .val (.int s1), .val (.int s2), .val (.int (3 : Int32)), .val (.int b0), .val (.int b1), .val (.int b2), .val (.int bp), .val (.int pr), .val (.ref b15), .val (.int fc), .val (.int (1 : Int32)), .unset, .unset, .unset] [(.int (3 : Int32))])) _
      refine XS.ifNo X276.here hx rfl (hb hby at_258) rfl ((if0 _ _).trans (tlt (by decide)).2.2.2) ?_
      show Steps p.tables e below (T276.setTop (mkF m 261 #[.val (.int p1), .val (.int p2), .val (.int p3), .val (.int p4), .val (.int p5), .val (.int s0), .val (.int s1), .val (.int s2), .val (.int (3 : Int32)), .val (.int b0), .val (.int b1), .val (.int b2), .val (.int bp), .val (.int pr), .val (.ref b15), .val (.int fc), .val (.int (1 : Int32)), .unset, .unset, .unset] [])) _
      refine XS.aload X276.here hx rfl (hb hby at_261) rfl rfl ?_
      show Steps p.tables e below (T276.setTop (mkF m 263 #[.val (.int p1), .val (.int p2), .val (.int p3), .val (.int p4), .val (.int p5), .val (.int s0), .val (.int s1), .val (.int s2), .val (.int (3 : Int32)), .val (.int b0), .val (.int b1), .val (.int b2), .val (.int bp), .val (.int pr), .val (.ref b15), .val (.int fc), .val (.int (1 : Int32)), .unset, .unset, .unset] [(.ref b15)])) _
      refine XS.iconst X276.here hx rfl (hb hby at_263) ?_
      show Steps p.tables e below (T276.setTop (mkF m 264 #[.val (.int p1), .val (.int p2), .val (.int p3), .val (.int p4), .val (.int p5), .val (.int s0), .val (.int s1), .val (.int s2), .val (.int (3 : Int32)), .val (.int b0), .val (.int b1), .val (.int b2), .val (.int bp), .val (.int pr), .val (.ref b15), .val (.int fc), .val (.int (1 : Int32)), .unset, .unset, .unset] [(.int (0 : Int32)), (.ref b15)])) _
      refine st277.trans ?_
      show Steps p.tables e below (T277.setTop (mkF m 267 #[.val (.int p1), .val (.int p2), .val (.int p3), .val (.int p4), .val (.int p5), .val (.int s0), .val (.int s1), .val (.int s2), .val (.int (3 : Int32)), .val (.int b0), .val (.int b1), .val (.int b2), .val (.int bp), .val (.int pr), .val (.ref b15), .val (.int fc), .val (.int (1 : Int32)), .unset, .unset, .unset] [(.int (re3.getD (0 : Int32).toNatClampNeg 0))])) _
      refine XS.goto X277.here hx rfl (pc0 := 267) (pc' := 271) rfl (hb hby at_267) (by decide) (by decide) ?_
      show Steps p.tables e below (T277.setTop (mkF m 271 #[.val (.int p1), .val (.int p2), .val (.int p3), .val (.int p4), .val (.int p5), .val (.int s0), .val (.int s1), .val (.int s2), .val (.int (3 : Int32)), .val (.int b0), .val (.int b1), .val (.int b2), .val (.int bp), .val (.int pr), .val (.ref b15), .val (.int fc), .val (.int (1 : Int32)), .unset, .unset, .unset] [(.int (re3.getD (0 : Int32).toNatClampNeg 0))])) _
      refine XS.istore X277.here hx rfl (hb hby at_271) rfl (l' := #[.val (.int p1), .val (.int p2), .val (.int p3), .val (.int p4), .val (.int p5), .val (.int s0), .val (.int s1), .val (.int s2), .val (.int (3 : Int32)), .val (.int b0), .val (.int b1), .val (.int b2), .val (.int bp), .val (.int pr), .val (.ref b15), .val (.int fc), .val (.int (1 : Int32)), .val (.int (re3.getD (0 : Int32).toNatClampNeg 0)), .unset, .unset]) rfl ?_
      show Steps p.tables e below (T277.setTop (mkF m 273 #[.val (.int p1), .val (.int p2), .val (.int p3), .val (.int p4), .val (.int p5), .val (.int s0), .val (.int s1), .val (.int s2), .val (.int (3 : Int32)), .val (.int b0), .val (.int b1), .val (.int b2), .val (.int bp), .val (.int pr), .val (.ref b15), .val (.int fc), .val (.int (1 : Int32)), .val (.int (re3.getD (0 : Int32).toNatClampNeg 0)), .unset, .unset] [])) _
      refine XS.iload X277.here hx rfl (hb hby at_273) rfl ?_
      show Steps p.tables e below (T277.setTop (mkF m 275 #[.val (.int p1), .val (.int p2), .val (.int p3), .val (.int p4), .val (.int p5), .val (.int s0), .val (.int s1), .val (.int s2), .val (.int (3 : Int32)), .val (.int b0), .val (.int b1), .val (.int b2), .val (.int bp), .val (.int pr), .val (.ref b15), .val (.int fc), .val (.int (1 : Int32)), .val (.int (re3.getD (0 : Int32).toNatClampNeg 0)), .unset, .unset] [(.int (3 : Int32))])) _
      refine XS.iconst X277.here hx rfl (hb hby at_275) ?_
      show Steps p.tables e below (T277.setTop (mkF m 276 #[.val (.int p1), .val (.int p2), .val (.int p3), .val (.int p4), .val (.int p5), .val (.int s0), .val (.int s1), .val (.int s2), .val (.int (3 : Int32)), .val (.int b0), .val (.int b1), .val (.int b2), .val (.int bp), .val (.int pr), .val (.ref b15), .val (.int fc), .val (.int (1 : Int32)), .val (.int (re3.getD (0 : Int32).toNatClampNeg 0)), .unset, .unset] [(.int (1 : Int32)), (.int (3 : Int32))])) _
      refine XS.icmpNo X277.here hx rfl (hb hby at_276) rfl (tlt (by decide)).2.2.2 ?_
      show Steps p.tables e below (T277.setTop (mkF m 279 #[.val (.int p1), .val (.int p2), .val (.int p3), .val (.int p4), .val (.int p5), .val (.int s0), .val (.int s1), .val (.int s2), .val (.int (3 : Int32)), .val (.int b0), .val (.int b1), .val (.int b2), .val (.int bp), .val (.int pr), .val (.ref b15), .val (.int fc), .val (.int (1 : Int32)), .val (.int (re3.getD (0 : Int32).toNatClampNeg 0)), .unset, .unset] [])) _
      refine XS.aload X277.here hx rfl (hb hby at_279) rfl rfl ?_
      show Steps p.tables e below (T277.setTop (mkF m 281 #[.val (.int p1), .val (.int p2), .val (.int p3), .val (.int p4), .val (.int p5), .val (.int s0), .val (.int s1), .val (.int s2), .val (.int (3 : Int32)), .val (.int b0), .val (.int b1), .val (.int b2), .val (.int bp), .val (.int pr), .val (.ref b15), .val (.int fc), .val (.int (1 : Int32)), .val (.int (re3.getD (0 : Int32).toNatClampNeg 0)), .unset, .unset] [(.ref b15)])) _
      refine XS.iconst X277.here hx rfl (hb hby at_281) ?_
      show Steps p.tables e below (T277.setTop (mkF m 282 #[.val (.int p1), .val (.int p2), .val (.int p3), .val (.int p4), .val (.int p5), .val (.int s0), .val (.int s1), .val (.int s2), .val (.int (3 : Int32)), .val (.int b0), .val (.int b1), .val (.int b2), .val (.int bp), .val (.int pr), .val (.ref b15), .val (.int fc), .val (.int (1 : Int32)), .val (.int (re3.getD (0 : Int32).toNatClampNeg 0)), .unset, .unset] [(.int (1 : Int32)), (.ref b15)])) _
      refine st278.trans ?_
      show Steps p.tables e below (T278.setTop (mkF m 285 #[.val (.int p1), .val (.int p2), .val (.int p3), .val (.int p4), .val (.int p5), .val (.int s0), .val (.int s1), .val (.int s2), .val (.int (3 : Int32)), .val (.int b0), .val (.int b1), .val (.int b2), .val (.int bp), .val (.int pr), .val (.ref b15), .val (.int fc), .val (.int (1 : Int32)), .val (.int (re3.getD (0 : Int32).toNatClampNeg 0)), .unset, .unset] [(.int (re3.getD (1 : Int32).toNatClampNeg 0))])) _
      refine XS.goto X278.here hx rfl (pc0 := 285) (pc' := 289) rfl (hb hby at_285) (by decide) (by decide) ?_
      show Steps p.tables e below (T278.setTop (mkF m 289 #[.val (.int p1), .val (.int p2), .val (.int p3), .val (.int p4), .val (.int p5), .val (.int s0), .val (.int s1), .val (.int s2), .val (.int (3 : Int32)), .val (.int b0), .val (.int b1), .val (.int b2), .val (.int bp), .val (.int pr), .val (.ref b15), .val (.int fc), .val (.int (1 : Int32)), .val (.int (re3.getD (0 : Int32).toNatClampNeg 0)), .unset, .unset] [(.int (re3.getD (1 : Int32).toNatClampNeg 0))])) _
      refine XS.istore X278.here hx rfl (hb hby at_289) rfl (l' := #[.val (.int p1), .val (.int p2), .val (.int p3), .val (.int p4), .val (.int p5), .val (.int s0), .val (.int s1), .val (.int s2), .val (.int (3 : Int32)), .val (.int b0), .val (.int b1), .val (.int b2), .val (.int bp), .val (.int pr), .val (.ref b15), .val (.int fc), .val (.int (1 : Int32)), .val (.int (re3.getD (0 : Int32).toNatClampNeg 0)), .val (.int (re3.getD (1 : Int32).toNatClampNeg 0)), .unset]) rfl ?_
      show Steps p.tables e below (T278.setTop (mkF m 291 #[.val (.int p1), .val (.int p2), .val (.int p3), .val (.int p4), .val (.int p5), .val (.int s0), .val (.int s1), .val (.int s2), .val (.int (3 : Int32)), .val (.int b0), .val (.int b1), .val (.int b2), .val (.int bp), .val (.int pr), .val (.ref b15), .val (.int fc), .val (.int (1 : Int32)), .val (.int (re3.getD (0 : Int32).toNatClampNeg 0)), .val (.int (re3.getD (1 : Int32).toNatClampNeg 0)), .unset] [])) _
      refine XS.iload X278.here hx rfl (hb hby at_291) rfl ?_
      show Steps p.tables e below (T278.setTop (mkF m 293 #[.val (.int p1), .val (.int p2), .val (.int p3), .val (.int p4), .val (.int p5), .val (.int s0), .val (.int s1), .val (.int s2), .val (.int (3 : Int32)), .val (.int b0), .val (.int b1), .val (.int b2), .val (.int bp), .val (.int pr), .val (.ref b15), .val (.int fc), .val (.int (1 : Int32)), .val (.int (re3.getD (0 : Int32).toNatClampNeg 0)), .val (.int (re3.getD (1 : Int32).toNatClampNeg 0)), .unset] [(.int (3 : Int32))])) _
      refine XS.iconst X278.here hx rfl (hb hby at_293) ?_
      show Steps p.tables e below (T278.setTop (mkF m 294 #[.val (.int p1), .val (.int p2), .val (.int p3), .val (.int p4), .val (.int p5), .val (.int s0), .val (.int s1), .val (.int s2), .val (.int (3 : Int32)), .val (.int b0), .val (.int b1), .val (.int b2), .val (.int bp), .val (.int pr), .val (.ref b15), .val (.int fc), .val (.int (1 : Int32)), .val (.int (re3.getD (0 : Int32).toNatClampNeg 0)), .val (.int (re3.getD (1 : Int32).toNatClampNeg 0)), .unset] [(.int (2 : Int32)), (.int (3 : Int32))])) _
      refine XS.icmpNo X278.here hx rfl (hb hby at_294) rfl (tlt (by decide)).2.2.2 ?_
      show Steps p.tables e below (T278.setTop (mkF m 297 #[.val (.int p1), .val (.int p2), .val (.int p3), .val (.int p4), .val (.int p5), .val (.int s0), .val (.int s1), .val (.int s2), .val (.int (3 : Int32)), .val (.int b0), .val (.int b1), .val (.int b2), .val (.int bp), .val (.int pr), .val (.ref b15), .val (.int fc), .val (.int (1 : Int32)), .val (.int (re3.getD (0 : Int32).toNatClampNeg 0)), .val (.int (re3.getD (1 : Int32).toNatClampNeg 0)), .unset] [])) _
      refine XS.aload X278.here hx rfl (hb hby at_297) rfl rfl ?_
      show Steps p.tables e below (T278.setTop (mkF m 299 #[.val (.int p1), .val (.int p2), .val (.int p3), .val (.int p4), .val (.int p5), .val (.int s0), .val (.int s1), .val (.int s2), .val (.int (3 : Int32)), .val (.int b0), .val (.int b1), .val (.int b2), .val (.int bp), .val (.int pr), .val (.ref b15), .val (.int fc), .val (.int (1 : Int32)), .val (.int (re3.getD (0 : Int32).toNatClampNeg 0)), .val (.int (re3.getD (1 : Int32).toNatClampNeg 0)), .unset] [(.ref b15)])) _
      refine XS.iconst X278.here hx rfl (hb hby at_299) ?_
      show Steps p.tables e below (T278.setTop (mkF m 300 #[.val (.int p1), .val (.int p2), .val (.int p3), .val (.int p4), .val (.int p5), .val (.int s0), .val (.int s1), .val (.int s2), .val (.int (3 : Int32)), .val (.int b0), .val (.int b1), .val (.int b2), .val (.int bp), .val (.int pr), .val (.ref b15), .val (.int fc), .val (.int (1 : Int32)), .val (.int (re3.getD (0 : Int32).toNatClampNeg 0)), .val (.int (re3.getD (1 : Int32).toNatClampNeg 0)), .unset] [(.int (2 : Int32)), (.ref b15)])) _
      refine st279.trans ?_
      show Steps p.tables e below (T279.setTop (mkF m 303 #[.val (.int p1), .val (.int p2), .val (.int p3), .val (.int p4), .val (.int p5), .val (.int s0), .val (.int s1), .val (.int s2), .val (.int (3 : Int32)), .val (.int b0), .val (.int b1), .val (.int b2), .val (.int bp), .val (.int pr), .val (.ref b15), .val (.int fc), .val (.int (1 : Int32)), .val (.int (re3.getD (0 : Int32).toNatClampNeg 0)), .val (.int (re3.getD (1 : Int32).toNatClampNeg 0)), .unset] [(.int (re3.getD (2 : Int32).toNatClampNeg 0))])) _
      refine XS.goto X279.here hx rfl (pc0 := 303) (pc' := 307) rfl (hb hby at_303) (by decide) (by decide) ?_
      show Steps p.tables e below (T279.setTop (mkF m 307 #[.val (.int p1), .val (.int p2), .val (.int p3), .val (.int p4), .val (.int p5), .val (.int s0), .val (.int s1), .val (.int s2), .val (.int (3 : Int32)), .val (.int b0), .val (.int b1), .val (.int b2), .val (.int bp), .val (.int pr), .val (.ref b15), .val (.int fc), .val (.int (1 : Int32)), .val (.int (re3.getD (0 : Int32).toNatClampNeg 0)), .val (.int (re3.getD (1 : Int32).toNatClampNeg 0)), .unset] [(.int (re3.getD (2 : Int32).toNatClampNeg 0))])) _
      refine XS.istore X279.here hx rfl (hb hby at_307) rfl (l' := #[.val (.int p1), .val (.int p2), .val (.int p3), .val (.int p4), .val (.int p5), .val (.int s0), .val (.int s1), .val (.int s2), .val (.int (3 : Int32)), .val (.int b0), .val (.int b1), .val (.int b2), .val (.int bp), .val (.int pr), .val (.ref b15), .val (.int fc), .val (.int (1 : Int32)), .val (.int (re3.getD (0 : Int32).toNatClampNeg 0)), .val (.int (re3.getD (1 : Int32).toNatClampNeg 0)), .val (.int (re3.getD (2 : Int32).toNatClampNeg 0))]) rfl ?_
      show Steps p.tables e below (T279.setTop (mkF m 309 #[.val (.int p1), .val (.int p2), .val (.int p3), .val (.int p4), .val (.int p5), .val (.int s0), .val (.int s1), .val (.int s2), .val (.int (3 : Int32)), .val (.int b0), .val (.int b1), .val (.int b2), .val (.int bp), .val (.int pr), .val (.ref b15), .val (.int fc), .val (.int (1 : Int32)), .val (.int (re3.getD (0 : Int32).toNatClampNeg 0)), .val (.int (re3.getD (1 : Int32).toNatClampNeg 0)), .val (.int (re3.getD (2 : Int32).toNatClampNeg 0))] [])) _
      refine XS.iload X279.here hx rfl (hb hby at_309) rfl ?_
      show Steps p.tables e below (T279.setTop (mkF m 311 #[.val (.int p1), .val (.int p2), .val (.int p3), .val (.int p4), .val (.int p5), .val (.int s0), .val (.int s1), .val (.int s2), .val (.int (3 : Int32)), .val (.int b0), .val (.int b1), .val (.int b2), .val (.int bp), .val (.int pr), .val (.ref b15), .val (.int fc), .val (.int (1 : Int32)), .val (.int (re3.getD (0 : Int32).toNatClampNeg 0)), .val (.int (re3.getD (1 : Int32).toNatClampNeg 0)), .val (.int (re3.getD (2 : Int32).toNatClampNeg 0))] [(.int (1 : Int32))])) _
      refine XS.ifNo X279.here hx rfl (hb hby at_311) rfl ((if0 _ _).trans (feq (by decide)).1) ?_
      show Steps p.tables e below (T279.setTop (mkF m 314 #[.val (.int p1), .val (.int p2), .val (.int p3), .val (.int p4), .val (.int p5), .val (.int s0), .val (.int s1), .val (.int s2), .val (.int (3 : Int32)), .val (.int b0), .val (.int b1), .val (.int b2), .val (.int bp), .val (.int pr), .val (.ref b15), .val (.int fc), .val (.int (1 : Int32)), .val (.int (re3.getD (0 : Int32).toNatClampNeg 0)), .val (.int (re3.getD (1 : Int32).toNatClampNeg 0)), .val (.int (re3.getD (2 : Int32).toNatClampNeg 0))] [])) _
      refine XS.iconst X279.here hx rfl (hb hby at_314) ?_
      show Steps p.tables e below (T279.setTop (mkF m 315 #[.val (.int p1), .val (.int p2), .val (.int p3), .val (.int p4), .val (.int p5), .val (.int s0), .val (.int s1), .val (.int s2), .val (.int (3 : Int32)), .val (.int b0), .val (.int b1), .val (.int b2), .val (.int bp), .val (.int pr), .val (.ref b15), .val (.int fc), .val (.int (1 : Int32)), .val (.int (re3.getD (0 : Int32).toNatClampNeg 0)), .val (.int (re3.getD (1 : Int32).toNatClampNeg 0)), .val (.int (re3.getD (2 : Int32).toNatClampNeg 0))] [(.int (0 : Int32))])) _
      refine XS.iload X279.here hx rfl (hb hby at_315) rfl ?_
      show Steps p.tables e below (T279.setTop (mkF m 317 #[.val (.int p1), .val (.int p2), .val (.int p3), .val (.int p4), .val (.int p5), .val (.int s0), .val (.int s1), .val (.int s2), .val (.int (3 : Int32)), .val (.int b0), .val (.int b1), .val (.int b2), .val (.int bp), .val (.int pr), .val (.ref b15), .val (.int fc), .val (.int (1 : Int32)), .val (.int (re3.getD (0 : Int32).toNatClampNeg 0)), .val (.int (re3.getD (1 : Int32).toNatClampNeg 0)), .val (.int (re3.getD (2 : Int32).toNatClampNeg 0))] [(.int (re3.getD (0 : Int32).toNatClampNeg 0)), (.int (0 : Int32))])) _
      refine XS.iload X279.here hx rfl (hb hby at_317) rfl ?_
      show Steps p.tables e below (T279.setTop (mkF m 319 #[.val (.int p1), .val (.int p2), .val (.int p3), .val (.int p4), .val (.int p5), .val (.int s0), .val (.int s1), .val (.int s2), .val (.int (3 : Int32)), .val (.int b0), .val (.int b1), .val (.int b2), .val (.int bp), .val (.int pr), .val (.ref b15), .val (.int fc), .val (.int (1 : Int32)), .val (.int (re3.getD (0 : Int32).toNatClampNeg 0)), .val (.int (re3.getD (1 : Int32).toNatClampNeg 0)), .val (.int (re3.getD (2 : Int32).toNatClampNeg 0))] [(.int (3 : Int32)), (.int (re3.getD (0 : Int32).toNatClampNeg 0)), (.int (0 : Int32))])) _
      refine XS.iload X279.here hx rfl (hb hby at_319) rfl ?_
      show Steps p.tables e below (T279.setTop (mkF m 321 #[.val (.int p1), .val (.int p2), .val (.int p3), .val (.int p4), .val (.int p5), .val (.int s0), .val (.int s1), .val (.int s2), .val (.int (3 : Int32)), .val (.int b0), .val (.int b1), .val (.int b2), .val (.int bp), .val (.int pr), .val (.ref b15), .val (.int fc), .val (.int (1 : Int32)), .val (.int (re3.getD (0 : Int32).toNatClampNeg 0)), .val (.int (re3.getD (1 : Int32).toNatClampNeg 0)), .val (.int (re3.getD (2 : Int32).toNatClampNeg 0))] [(.int fc), (.int (3 : Int32)), (.int (re3.getD (0 : Int32).toNatClampNeg 0)), (.int (0 : Int32))])) _
      refine XS.iload X279.here hx rfl (hb hby at_321) rfl ?_
      show Steps p.tables e below (T279.setTop (mkF m 323 #[.val (.int p1), .val (.int p2), .val (.int p3), .val (.int p4), .val (.int p5), .val (.int s0), .val (.int s1), .val (.int s2), .val (.int (3 : Int32)), .val (.int b0), .val (.int b1), .val (.int b2), .val (.int bp), .val (.int pr), .val (.ref b15), .val (.int fc), .val (.int (1 : Int32)), .val (.int (re3.getD (0 : Int32).toNatClampNeg 0)), .val (.int (re3.getD (1 : Int32).toNatClampNeg 0)), .val (.int (re3.getD (2 : Int32).toNatClampNeg 0))] [(.int s0), (.int fc), (.int (3 : Int32)), (.int (re3.getD (0 : Int32).toNatClampNeg 0)), (.int (0 : Int32))])) _
      refine XS.iload X279.here hx rfl (hb hby at_323) rfl ?_
      show Steps p.tables e below (T279.setTop (mkF m 325 #[.val (.int p1), .val (.int p2), .val (.int p3), .val (.int p4), .val (.int p5), .val (.int s0), .val (.int s1), .val (.int s2), .val (.int (3 : Int32)), .val (.int b0), .val (.int b1), .val (.int b2), .val (.int bp), .val (.int pr), .val (.ref b15), .val (.int fc), .val (.int (1 : Int32)), .val (.int (re3.getD (0 : Int32).toNatClampNeg 0)), .val (.int (re3.getD (1 : Int32).toNatClampNeg 0)), .val (.int (re3.getD (2 : Int32).toNatClampNeg 0))] [(.int s1), (.int s0), (.int fc), (.int (3 : Int32)), (.int (re3.getD (0 : Int32).toNatClampNeg 0)), (.int (0 : Int32))])) _
      refine XS.iload X279.here hx rfl (hb hby at_325) rfl ?_
      show Steps p.tables e below (T279.setTop (mkF m 327 #[.val (.int p1), .val (.int p2), .val (.int p3), .val (.int p4), .val (.int p5), .val (.int s0), .val (.int s1), .val (.int s2), .val (.int (3 : Int32)), .val (.int b0), .val (.int b1), .val (.int b2), .val (.int bp), .val (.int pr), .val (.ref b15), .val (.int fc), .val (.int (1 : Int32)), .val (.int (re3.getD (0 : Int32).toNatClampNeg 0)), .val (.int (re3.getD (1 : Int32).toNatClampNeg 0)), .val (.int (re3.getD (2 : Int32).toNatClampNeg 0))] [(.int s2), (.int s1), (.int s0), (.int fc), (.int (3 : Int32)), (.int (re3.getD (0 : Int32).toNatClampNeg 0)), (.int (0 : Int32))])) _
      refine XS.iloadN X279.here hx rfl (hb hby at_327) rfl ?_
      show Steps p.tables e below (T279.setTop (mkF m 328 #[.val (.int p1), .val (.int p2), .val (.int p3), .val (.int p4), .val (.int p5), .val (.int s0), .val (.int s1), .val (.int s2), .val (.int (3 : Int32)), .val (.int b0), .val (.int b1), .val (.int b2), .val (.int bp), .val (.int pr), .val (.ref b15), .val (.int fc), .val (.int (1 : Int32)), .val (.int (re3.getD (0 : Int32).toNatClampNeg 0)), .val (.int (re3.getD (1 : Int32).toNatClampNeg 0)), .val (.int (re3.getD (2 : Int32).toNatClampNeg 0))] [(.int p4), (.int s2), (.int s1), (.int s0), (.int fc), (.int (3 : Int32)), (.int (re3.getD (0 : Int32).toNatClampNeg 0)), (.int (0 : Int32))])) _
      refine st280 _ ?_
      show Steps p.tables e below (T280.setTop (mkF m 331 #[.val (.int p1), .val (.int p2), .val (.int p3), .val (.int p4), .val (.int p5), .val (.int s0), .val (.int s1), .val (.int s2), .val (.int (3 : Int32)), .val (.int b0), .val (.int b1), .val (.int b2), .val (.int bp), .val (.int pr), .val (.ref b15), .val (.int fc), .val (.int (1 : Int32)), .val (.int (re3.getD (0 : Int32).toNatClampNeg 0)), .val (.int (re3.getD (1 : Int32).toNatClampNeg 0)), .val (.int (re3.getD (2 : Int32).toNatClampNeg 0))] [(.int (own_place (0 : Int32) (re3.getD (0 : Int32).toNatClampNeg 0) (3 : Int32) fc s0 s1 s2 p4))])) _
      refine XS.ifNo X280.here hx rfl (hb hby at_331) rfl ((if0 _ _).trans (feq (by rw [pl0]; decide)).1) ?_
      show Steps p.tables e below (T280.setTop (mkF m 334 #[.val (.int p1), .val (.int p2), .val (.int p3), .val (.int p4), .val (.int p5), .val (.int s0), .val (.int s1), .val (.int s2), .val (.int (3 : Int32)), .val (.int b0), .val (.int b1), .val (.int b2), .val (.int bp), .val (.int pr), .val (.ref b15), .val (.int fc), .val (.int (1 : Int32)), .val (.int (re3.getD (0 : Int32).toNatClampNeg 0)), .val (.int (re3.getD (1 : Int32).toNatClampNeg 0)), .val (.int (re3.getD (2 : Int32).toNatClampNeg 0))] [])) _
      refine XS.iconst X280.here hx rfl (hb hby at_334) ?_
      show Steps p.tables e below (T280.setTop (mkF m 335 #[.val (.int p1), .val (.int p2), .val (.int p3), .val (.int p4), .val (.int p5), .val (.int s0), .val (.int s1), .val (.int s2), .val (.int (3 : Int32)), .val (.int b0), .val (.int b1), .val (.int b2), .val (.int bp), .val (.int pr), .val (.ref b15), .val (.int fc), .val (.int (1 : Int32)), .val (.int (re3.getD (0 : Int32).toNatClampNeg 0)), .val (.int (re3.getD (1 : Int32).toNatClampNeg 0)), .val (.int (re3.getD (2 : Int32).toNatClampNeg 0))] [(.int (1 : Int32))])) _
      refine XS.goto X280.here hx rfl (pc0 := 335) (pc' := 339) rfl (hb hby at_335) (by decide) (by decide) ?_
      show Steps p.tables e below (T280.setTop (mkF m 339 #[.val (.int p1), .val (.int p2), .val (.int p3), .val (.int p4), .val (.int p5), .val (.int s0), .val (.int s1), .val (.int s2), .val (.int (3 : Int32)), .val (.int b0), .val (.int b1), .val (.int b2), .val (.int bp), .val (.int pr), .val (.ref b15), .val (.int fc), .val (.int (1 : Int32)), .val (.int (re3.getD (0 : Int32).toNatClampNeg 0)), .val (.int (re3.getD (1 : Int32).toNatClampNeg 0)), .val (.int (re3.getD (2 : Int32).toNatClampNeg 0))] [(.int (1 : Int32))])) _
      refine XS.istore X280.here hx rfl (hb hby at_339) rfl (l' := #[.val (.int p1), .val (.int p2), .val (.int p3), .val (.int p4), .val (.int p5), .val (.int s0), .val (.int s1), .val (.int s2), .val (.int (3 : Int32)), .val (.int b0), .val (.int b1), .val (.int b2), .val (.int bp), .val (.int pr), .val (.ref b15), .val (.int fc), .val (.int (1 : Int32)), .val (.int (re3.getD (0 : Int32).toNatClampNeg 0)), .val (.int (re3.getD (1 : Int32).toNatClampNeg 0)), .val (.int (re3.getD (2 : Int32).toNatClampNeg 0))]) rfl ?_
      show Steps p.tables e below (T280.setTop (mkF m 341 #[.val (.int p1), .val (.int p2), .val (.int p3), .val (.int p4), .val (.int p5), .val (.int s0), .val (.int s1), .val (.int s2), .val (.int (3 : Int32)), .val (.int b0), .val (.int b1), .val (.int b2), .val (.int bp), .val (.int pr), .val (.ref b15), .val (.int fc), .val (.int (1 : Int32)), .val (.int (re3.getD (0 : Int32).toNatClampNeg 0)), .val (.int (re3.getD (1 : Int32).toNatClampNeg 0)), .val (.int (re3.getD (2 : Int32).toNatClampNeg 0))] [])) _
      refine XS.iload X280.here hx rfl (hb hby at_341) rfl ?_
      show Steps p.tables e below (T280.setTop (mkF m 343 #[.val (.int p1), .val (.int p2), .val (.int p3), .val (.int p4), .val (.int p5), .val (.int s0), .val (.int s1), .val (.int s2), .val (.int (3 : Int32)), .val (.int b0), .val (.int b1), .val (.int b2), .val (.int bp), .val (.int pr), .val (.ref b15), .val (.int fc), .val (.int (1 : Int32)), .val (.int (re3.getD (0 : Int32).toNatClampNeg 0)), .val (.int (re3.getD (1 : Int32).toNatClampNeg 0)), .val (.int (re3.getD (2 : Int32).toNatClampNeg 0))] [(.int (1 : Int32))])) _
      refine XS.ifNo X280.here hx rfl (hb hby at_343) rfl ((if0 _ _).trans (feq (by decide)).1) ?_
      show Steps p.tables e below (T280.setTop (mkF m 346 #[.val (.int p1), .val (.int p2), .val (.int p3), .val (.int p4), .val (.int p5), .val (.int s0), .val (.int s1), .val (.int s2), .val (.int (3 : Int32)), .val (.int b0), .val (.int b1), .val (.int b2), .val (.int bp), .val (.int pr), .val (.ref b15), .val (.int fc), .val (.int (1 : Int32)), .val (.int (re3.getD (0 : Int32).toNatClampNeg 0)), .val (.int (re3.getD (1 : Int32).toNatClampNeg 0)), .val (.int (re3.getD (2 : Int32).toNatClampNeg 0))] [])) _
      refine XS.iconst X280.here hx rfl (hb hby at_346) ?_
      show Steps p.tables e below (T280.setTop (mkF m 347 #[.val (.int p1), .val (.int p2), .val (.int p3), .val (.int p4), .val (.int p5), .val (.int s0), .val (.int s1), .val (.int s2), .val (.int (3 : Int32)), .val (.int b0), .val (.int b1), .val (.int b2), .val (.int bp), .val (.int pr), .val (.ref b15), .val (.int fc), .val (.int (1 : Int32)), .val (.int (re3.getD (0 : Int32).toNatClampNeg 0)), .val (.int (re3.getD (1 : Int32).toNatClampNeg 0)), .val (.int (re3.getD (2 : Int32).toNatClampNeg 0))] [(.int (1 : Int32))])) _
      refine XS.iload X280.here hx rfl (hb hby at_347) rfl ?_
      show Steps p.tables e below (T280.setTop (mkF m 349 #[.val (.int p1), .val (.int p2), .val (.int p3), .val (.int p4), .val (.int p5), .val (.int s0), .val (.int s1), .val (.int s2), .val (.int (3 : Int32)), .val (.int b0), .val (.int b1), .val (.int b2), .val (.int bp), .val (.int pr), .val (.ref b15), .val (.int fc), .val (.int (1 : Int32)), .val (.int (re3.getD (0 : Int32).toNatClampNeg 0)), .val (.int (re3.getD (1 : Int32).toNatClampNeg 0)), .val (.int (re3.getD (2 : Int32).toNatClampNeg 0))] [(.int (re3.getD (1 : Int32).toNatClampNeg 0)), (.int (1 : Int32))])) _
      refine XS.iload X280.here hx rfl (hb hby at_349) rfl ?_
      show Steps p.tables e below (T280.setTop (mkF m 351 #[.val (.int p1), .val (.int p2), .val (.int p3), .val (.int p4), .val (.int p5), .val (.int s0), .val (.int s1), .val (.int s2), .val (.int (3 : Int32)), .val (.int b0), .val (.int b1), .val (.int b2), .val (.int bp), .val (.int pr), .val (.ref b15), .val (.int fc), .val (.int (1 : Int32)), .val (.int (re3.getD (0 : Int32).toNatClampNeg 0)), .val (.int (re3.getD (1 : Int32).toNatClampNeg 0)), .val (.int (re3.getD (2 : Int32).toNatClampNeg 0))] [(.int (3 : Int32)), (.int (re3.getD (1 : Int32).toNatClampNeg 0)), (.int (1 : Int32))])) _
      refine XS.iload X280.here hx rfl (hb hby at_351) rfl ?_
      show Steps p.tables e below (T280.setTop (mkF m 353 #[.val (.int p1), .val (.int p2), .val (.int p3), .val (.int p4), .val (.int p5), .val (.int s0), .val (.int s1), .val (.int s2), .val (.int (3 : Int32)), .val (.int b0), .val (.int b1), .val (.int b2), .val (.int bp), .val (.int pr), .val (.ref b15), .val (.int fc), .val (.int (1 : Int32)), .val (.int (re3.getD (0 : Int32).toNatClampNeg 0)), .val (.int (re3.getD (1 : Int32).toNatClampNeg 0)), .val (.int (re3.getD (2 : Int32).toNatClampNeg 0))] [(.int fc), (.int (3 : Int32)), (.int (re3.getD (1 : Int32).toNatClampNeg 0)), (.int (1 : Int32))])) _
      refine XS.iload X280.here hx rfl (hb hby at_353) rfl ?_
      show Steps p.tables e below (T280.setTop (mkF m 355 #[.val (.int p1), .val (.int p2), .val (.int p3), .val (.int p4), .val (.int p5), .val (.int s0), .val (.int s1), .val (.int s2), .val (.int (3 : Int32)), .val (.int b0), .val (.int b1), .val (.int b2), .val (.int bp), .val (.int pr), .val (.ref b15), .val (.int fc), .val (.int (1 : Int32)), .val (.int (re3.getD (0 : Int32).toNatClampNeg 0)), .val (.int (re3.getD (1 : Int32).toNatClampNeg 0)), .val (.int (re3.getD (2 : Int32).toNatClampNeg 0))] [(.int s0), (.int fc), (.int (3 : Int32)), (.int (re3.getD (1 : Int32).toNatClampNeg 0)), (.int (1 : Int32))])) _
      refine XS.iload X280.here hx rfl (hb hby at_355) rfl ?_
      show Steps p.tables e below (T280.setTop (mkF m 357 #[.val (.int p1), .val (.int p2), .val (.int p3), .val (.int p4), .val (.int p5), .val (.int s0), .val (.int s1), .val (.int s2), .val (.int (3 : Int32)), .val (.int b0), .val (.int b1), .val (.int b2), .val (.int bp), .val (.int pr), .val (.ref b15), .val (.int fc), .val (.int (1 : Int32)), .val (.int (re3.getD (0 : Int32).toNatClampNeg 0)), .val (.int (re3.getD (1 : Int32).toNatClampNeg 0)), .val (.int (re3.getD (2 : Int32).toNatClampNeg 0))] [(.int s1), (.int s0), (.int fc), (.int (3 : Int32)), (.int (re3.getD (1 : Int32).toNatClampNeg 0)), (.int (1 : Int32))])) _
      refine XS.iload X280.here hx rfl (hb hby at_357) rfl ?_
      show Steps p.tables e below (T280.setTop (mkF m 359 #[.val (.int p1), .val (.int p2), .val (.int p3), .val (.int p4), .val (.int p5), .val (.int s0), .val (.int s1), .val (.int s2), .val (.int (3 : Int32)), .val (.int b0), .val (.int b1), .val (.int b2), .val (.int bp), .val (.int pr), .val (.ref b15), .val (.int fc), .val (.int (1 : Int32)), .val (.int (re3.getD (0 : Int32).toNatClampNeg 0)), .val (.int (re3.getD (1 : Int32).toNatClampNeg 0)), .val (.int (re3.getD (2 : Int32).toNatClampNeg 0))] [(.int s2), (.int s1), (.int s0), (.int fc), (.int (3 : Int32)), (.int (re3.getD (1 : Int32).toNatClampNeg 0)), (.int (1 : Int32))])) _
      refine XS.iloadN X280.here hx rfl (hb hby at_359) rfl ?_
      show Steps p.tables e below (T280.setTop (mkF m 360 #[.val (.int p1), .val (.int p2), .val (.int p3), .val (.int p4), .val (.int p5), .val (.int s0), .val (.int s1), .val (.int s2), .val (.int (3 : Int32)), .val (.int b0), .val (.int b1), .val (.int b2), .val (.int bp), .val (.int pr), .val (.ref b15), .val (.int fc), .val (.int (1 : Int32)), .val (.int (re3.getD (0 : Int32).toNatClampNeg 0)), .val (.int (re3.getD (1 : Int32).toNatClampNeg 0)), .val (.int (re3.getD (2 : Int32).toNatClampNeg 0))] [(.int p4), (.int s2), (.int s1), (.int s0), (.int fc), (.int (3 : Int32)), (.int (re3.getD (1 : Int32).toNatClampNeg 0)), (.int (1 : Int32))])) _
      refine st281 _ ?_
      show Steps p.tables e below (T281.setTop (mkF m 363 #[.val (.int p1), .val (.int p2), .val (.int p3), .val (.int p4), .val (.int p5), .val (.int s0), .val (.int s1), .val (.int s2), .val (.int (3 : Int32)), .val (.int b0), .val (.int b1), .val (.int b2), .val (.int bp), .val (.int pr), .val (.ref b15), .val (.int fc), .val (.int (1 : Int32)), .val (.int (re3.getD (0 : Int32).toNatClampNeg 0)), .val (.int (re3.getD (1 : Int32).toNatClampNeg 0)), .val (.int (re3.getD (2 : Int32).toNatClampNeg 0))] [(.int (own_place (1 : Int32) (re3.getD (1 : Int32).toNatClampNeg 0) (3 : Int32) fc s0 s1 s2 p4))])) _
      refine XS.ifNo X281.here hx rfl (hb hby at_363) rfl ((if0 _ _).trans (feq (by rw [pl1]; decide)).1) ?_
      show Steps p.tables e below (T281.setTop (mkF m 366 #[.val (.int p1), .val (.int p2), .val (.int p3), .val (.int p4), .val (.int p5), .val (.int s0), .val (.int s1), .val (.int s2), .val (.int (3 : Int32)), .val (.int b0), .val (.int b1), .val (.int b2), .val (.int bp), .val (.int pr), .val (.ref b15), .val (.int fc), .val (.int (1 : Int32)), .val (.int (re3.getD (0 : Int32).toNatClampNeg 0)), .val (.int (re3.getD (1 : Int32).toNatClampNeg 0)), .val (.int (re3.getD (2 : Int32).toNatClampNeg 0))] [])) _
      refine XS.iconst X281.here hx rfl (hb hby at_366) ?_
      show Steps p.tables e below (T281.setTop (mkF m 367 #[.val (.int p1), .val (.int p2), .val (.int p3), .val (.int p4), .val (.int p5), .val (.int s0), .val (.int s1), .val (.int s2), .val (.int (3 : Int32)), .val (.int b0), .val (.int b1), .val (.int b2), .val (.int bp), .val (.int pr), .val (.ref b15), .val (.int fc), .val (.int (1 : Int32)), .val (.int (re3.getD (0 : Int32).toNatClampNeg 0)), .val (.int (re3.getD (1 : Int32).toNatClampNeg 0)), .val (.int (re3.getD (2 : Int32).toNatClampNeg 0))] [(.int (1 : Int32))])) _
      refine XS.goto X281.here hx rfl (pc0 := 367) (pc' := 371) rfl (hb hby at_367) (by decide) (by decide) ?_
      show Steps p.tables e below (T281.setTop (mkF m 371 #[.val (.int p1), .val (.int p2), .val (.int p3), .val (.int p4), .val (.int p5), .val (.int s0), .val (.int s1), .val (.int s2), .val (.int (3 : Int32)), .val (.int b0), .val (.int b1), .val (.int b2), .val (.int bp), .val (.int pr), .val (.ref b15), .val (.int fc), .val (.int (1 : Int32)), .val (.int (re3.getD (0 : Int32).toNatClampNeg 0)), .val (.int (re3.getD (1 : Int32).toNatClampNeg 0)), .val (.int (re3.getD (2 : Int32).toNatClampNeg 0))] [(.int (1 : Int32))])) _
      refine XS.istore X281.here hx rfl (hb hby at_371) rfl (l' := #[.val (.int p1), .val (.int p2), .val (.int p3), .val (.int p4), .val (.int p5), .val (.int s0), .val (.int s1), .val (.int s2), .val (.int (3 : Int32)), .val (.int b0), .val (.int b1), .val (.int b2), .val (.int bp), .val (.int pr), .val (.ref b15), .val (.int fc), .val (.int (1 : Int32)), .val (.int (re3.getD (0 : Int32).toNatClampNeg 0)), .val (.int (re3.getD (1 : Int32).toNatClampNeg 0)), .val (.int (re3.getD (2 : Int32).toNatClampNeg 0))]) rfl ?_
      show Steps p.tables e below (T281.setTop (mkF m 373 #[.val (.int p1), .val (.int p2), .val (.int p3), .val (.int p4), .val (.int p5), .val (.int s0), .val (.int s1), .val (.int s2), .val (.int (3 : Int32)), .val (.int b0), .val (.int b1), .val (.int b2), .val (.int bp), .val (.int pr), .val (.ref b15), .val (.int fc), .val (.int (1 : Int32)), .val (.int (re3.getD (0 : Int32).toNatClampNeg 0)), .val (.int (re3.getD (1 : Int32).toNatClampNeg 0)), .val (.int (re3.getD (2 : Int32).toNatClampNeg 0))] [])) _
      refine XS.iload X281.here hx rfl (hb hby at_373) rfl ?_
      show Steps p.tables e below (T281.setTop (mkF m 375 #[.val (.int p1), .val (.int p2), .val (.int p3), .val (.int p4), .val (.int p5), .val (.int s0), .val (.int s1), .val (.int s2), .val (.int (3 : Int32)), .val (.int b0), .val (.int b1), .val (.int b2), .val (.int bp), .val (.int pr), .val (.ref b15), .val (.int fc), .val (.int (1 : Int32)), .val (.int (re3.getD (0 : Int32).toNatClampNeg 0)), .val (.int (re3.getD (1 : Int32).toNatClampNeg 0)), .val (.int (re3.getD (2 : Int32).toNatClampNeg 0))] [(.int (1 : Int32))])) _
      refine XS.ifNo X281.here hx rfl (hb hby at_375) rfl ((if0 _ _).trans (feq (by decide)).1) ?_
      show Steps p.tables e below (T281.setTop (mkF m 378 #[.val (.int p1), .val (.int p2), .val (.int p3), .val (.int p4), .val (.int p5), .val (.int s0), .val (.int s1), .val (.int s2), .val (.int (3 : Int32)), .val (.int b0), .val (.int b1), .val (.int b2), .val (.int bp), .val (.int pr), .val (.ref b15), .val (.int fc), .val (.int (1 : Int32)), .val (.int (re3.getD (0 : Int32).toNatClampNeg 0)), .val (.int (re3.getD (1 : Int32).toNatClampNeg 0)), .val (.int (re3.getD (2 : Int32).toNatClampNeg 0))] [])) _
      refine XS.iconst X281.here hx rfl (hb hby at_378) ?_
      show Steps p.tables e below (T281.setTop (mkF m 379 #[.val (.int p1), .val (.int p2), .val (.int p3), .val (.int p4), .val (.int p5), .val (.int s0), .val (.int s1), .val (.int s2), .val (.int (3 : Int32)), .val (.int b0), .val (.int b1), .val (.int b2), .val (.int bp), .val (.int pr), .val (.ref b15), .val (.int fc), .val (.int (1 : Int32)), .val (.int (re3.getD (0 : Int32).toNatClampNeg 0)), .val (.int (re3.getD (1 : Int32).toNatClampNeg 0)), .val (.int (re3.getD (2 : Int32).toNatClampNeg 0))] [(.int (2 : Int32))])) _
      refine XS.iload X281.here hx rfl (hb hby at_379) rfl ?_
      show Steps p.tables e below (T281.setTop (mkF m 381 #[.val (.int p1), .val (.int p2), .val (.int p3), .val (.int p4), .val (.int p5), .val (.int s0), .val (.int s1), .val (.int s2), .val (.int (3 : Int32)), .val (.int b0), .val (.int b1), .val (.int b2), .val (.int bp), .val (.int pr), .val (.ref b15), .val (.int fc), .val (.int (1 : Int32)), .val (.int (re3.getD (0 : Int32).toNatClampNeg 0)), .val (.int (re3.getD (1 : Int32).toNatClampNeg 0)), .val (.int (re3.getD (2 : Int32).toNatClampNeg 0))] [(.int (re3.getD (2 : Int32).toNatClampNeg 0)), (.int (2 : Int32))])) _
      refine XS.iload X281.here hx rfl (hb hby at_381) rfl ?_
      show Steps p.tables e below (T281.setTop (mkF m 383 #[.val (.int p1), .val (.int p2), .val (.int p3), .val (.int p4), .val (.int p5), .val (.int s0), .val (.int s1), .val (.int s2), .val (.int (3 : Int32)), .val (.int b0), .val (.int b1), .val (.int b2), .val (.int bp), .val (.int pr), .val (.ref b15), .val (.int fc), .val (.int (1 : Int32)), .val (.int (re3.getD (0 : Int32).toNatClampNeg 0)), .val (.int (re3.getD (1 : Int32).toNatClampNeg 0)), .val (.int (re3.getD (2 : Int32).toNatClampNeg 0))] [(.int (3 : Int32)), (.int (re3.getD (2 : Int32).toNatClampNeg 0)), (.int (2 : Int32))])) _
      refine XS.iload X281.here hx rfl (hb hby at_383) rfl ?_
      show Steps p.tables e below (T281.setTop (mkF m 385 #[.val (.int p1), .val (.int p2), .val (.int p3), .val (.int p4), .val (.int p5), .val (.int s0), .val (.int s1), .val (.int s2), .val (.int (3 : Int32)), .val (.int b0), .val (.int b1), .val (.int b2), .val (.int bp), .val (.int pr), .val (.ref b15), .val (.int fc), .val (.int (1 : Int32)), .val (.int (re3.getD (0 : Int32).toNatClampNeg 0)), .val (.int (re3.getD (1 : Int32).toNatClampNeg 0)), .val (.int (re3.getD (2 : Int32).toNatClampNeg 0))] [(.int fc), (.int (3 : Int32)), (.int (re3.getD (2 : Int32).toNatClampNeg 0)), (.int (2 : Int32))])) _
      refine XS.iload X281.here hx rfl (hb hby at_385) rfl ?_
      show Steps p.tables e below (T281.setTop (mkF m 387 #[.val (.int p1), .val (.int p2), .val (.int p3), .val (.int p4), .val (.int p5), .val (.int s0), .val (.int s1), .val (.int s2), .val (.int (3 : Int32)), .val (.int b0), .val (.int b1), .val (.int b2), .val (.int bp), .val (.int pr), .val (.ref b15), .val (.int fc), .val (.int (1 : Int32)), .val (.int (re3.getD (0 : Int32).toNatClampNeg 0)), .val (.int (re3.getD (1 : Int32).toNatClampNeg 0)), .val (.int (re3.getD (2 : Int32).toNatClampNeg 0))] [(.int s0), (.int fc), (.int (3 : Int32)), (.int (re3.getD (2 : Int32).toNatClampNeg 0)), (.int (2 : Int32))])) _
      refine XS.iload X281.here hx rfl (hb hby at_387) rfl ?_
      show Steps p.tables e below (T281.setTop (mkF m 389 #[.val (.int p1), .val (.int p2), .val (.int p3), .val (.int p4), .val (.int p5), .val (.int s0), .val (.int s1), .val (.int s2), .val (.int (3 : Int32)), .val (.int b0), .val (.int b1), .val (.int b2), .val (.int bp), .val (.int pr), .val (.ref b15), .val (.int fc), .val (.int (1 : Int32)), .val (.int (re3.getD (0 : Int32).toNatClampNeg 0)), .val (.int (re3.getD (1 : Int32).toNatClampNeg 0)), .val (.int (re3.getD (2 : Int32).toNatClampNeg 0))] [(.int s1), (.int s0), (.int fc), (.int (3 : Int32)), (.int (re3.getD (2 : Int32).toNatClampNeg 0)), (.int (2 : Int32))])) _
      refine XS.iload X281.here hx rfl (hb hby at_389) rfl ?_
      show Steps p.tables e below (T281.setTop (mkF m 391 #[.val (.int p1), .val (.int p2), .val (.int p3), .val (.int p4), .val (.int p5), .val (.int s0), .val (.int s1), .val (.int s2), .val (.int (3 : Int32)), .val (.int b0), .val (.int b1), .val (.int b2), .val (.int bp), .val (.int pr), .val (.ref b15), .val (.int fc), .val (.int (1 : Int32)), .val (.int (re3.getD (0 : Int32).toNatClampNeg 0)), .val (.int (re3.getD (1 : Int32).toNatClampNeg 0)), .val (.int (re3.getD (2 : Int32).toNatClampNeg 0))] [(.int s2), (.int s1), (.int s0), (.int fc), (.int (3 : Int32)), (.int (re3.getD (2 : Int32).toNatClampNeg 0)), (.int (2 : Int32))])) _
      refine XS.iloadN X281.here hx rfl (hb hby at_391) rfl ?_
      show Steps p.tables e below (T281.setTop (mkF m 392 #[.val (.int p1), .val (.int p2), .val (.int p3), .val (.int p4), .val (.int p5), .val (.int s0), .val (.int s1), .val (.int s2), .val (.int (3 : Int32)), .val (.int b0), .val (.int b1), .val (.int b2), .val (.int bp), .val (.int pr), .val (.ref b15), .val (.int fc), .val (.int (1 : Int32)), .val (.int (re3.getD (0 : Int32).toNatClampNeg 0)), .val (.int (re3.getD (1 : Int32).toNatClampNeg 0)), .val (.int (re3.getD (2 : Int32).toNatClampNeg 0))] [(.int p4), (.int s2), (.int s1), (.int s0), (.int fc), (.int (3 : Int32)), (.int (re3.getD (2 : Int32).toNatClampNeg 0)), (.int (2 : Int32))])) _
      refine st282 _ ?_
      show Steps p.tables e below (T282.setTop (mkF m 395 #[.val (.int p1), .val (.int p2), .val (.int p3), .val (.int p4), .val (.int p5), .val (.int s0), .val (.int s1), .val (.int s2), .val (.int (3 : Int32)), .val (.int b0), .val (.int b1), .val (.int b2), .val (.int bp), .val (.int pr), .val (.ref b15), .val (.int fc), .val (.int (1 : Int32)), .val (.int (re3.getD (0 : Int32).toNatClampNeg 0)), .val (.int (re3.getD (1 : Int32).toNatClampNeg 0)), .val (.int (re3.getD (2 : Int32).toNatClampNeg 0))] [(.int (own_place (2 : Int32) (re3.getD (2 : Int32).toNatClampNeg 0) (3 : Int32) fc s0 s1 s2 p4))])) _
      refine XS.ifNo X282.here hx rfl (hb hby at_395) rfl ((if0 _ _).trans (feq (by rw [pl2]; decide)).1) ?_
      show Steps p.tables e below (T282.setTop (mkF m 398 #[.val (.int p1), .val (.int p2), .val (.int p3), .val (.int p4), .val (.int p5), .val (.int s0), .val (.int s1), .val (.int s2), .val (.int (3 : Int32)), .val (.int b0), .val (.int b1), .val (.int b2), .val (.int bp), .val (.int pr), .val (.ref b15), .val (.int fc), .val (.int (1 : Int32)), .val (.int (re3.getD (0 : Int32).toNatClampNeg 0)), .val (.int (re3.getD (1 : Int32).toNatClampNeg 0)), .val (.int (re3.getD (2 : Int32).toNatClampNeg 0))] [])) _
      refine XS.iconst X282.here hx rfl (hb hby at_398) ?_
      show Steps p.tables e below (T282.setTop (mkF m 399 #[.val (.int p1), .val (.int p2), .val (.int p3), .val (.int p4), .val (.int p5), .val (.int s0), .val (.int s1), .val (.int s2), .val (.int (3 : Int32)), .val (.int b0), .val (.int b1), .val (.int b2), .val (.int bp), .val (.int pr), .val (.ref b15), .val (.int fc), .val (.int (1 : Int32)), .val (.int (re3.getD (0 : Int32).toNatClampNeg 0)), .val (.int (re3.getD (1 : Int32).toNatClampNeg 0)), .val (.int (re3.getD (2 : Int32).toNatClampNeg 0))] [(.int (1 : Int32))])) _
      refine XS.goto X282.here hx rfl (pc0 := 399) (pc' := 403) rfl (hb hby at_399) (by decide) (by decide) ?_
      show Steps p.tables e below (T282.setTop (mkF m 403 #[.val (.int p1), .val (.int p2), .val (.int p3), .val (.int p4), .val (.int p5), .val (.int s0), .val (.int s1), .val (.int s2), .val (.int (3 : Int32)), .val (.int b0), .val (.int b1), .val (.int b2), .val (.int bp), .val (.int pr), .val (.ref b15), .val (.int fc), .val (.int (1 : Int32)), .val (.int (re3.getD (0 : Int32).toNatClampNeg 0)), .val (.int (re3.getD (1 : Int32).toNatClampNeg 0)), .val (.int (re3.getD (2 : Int32).toNatClampNeg 0))] [(.int (1 : Int32))])) _
      refine XS.istore X282.here hx rfl (hb hby at_403) rfl (l' := #[.val (.int p1), .val (.int p2), .val (.int p3), .val (.int p4), .val (.int p5), .val (.int s0), .val (.int s1), .val (.int s2), .val (.int (3 : Int32)), .val (.int b0), .val (.int b1), .val (.int b2), .val (.int bp), .val (.int pr), .val (.ref b15), .val (.int fc), .val (.int (1 : Int32)), .val (.int (re3.getD (0 : Int32).toNatClampNeg 0)), .val (.int (re3.getD (1 : Int32).toNatClampNeg 0)), .val (.int (re3.getD (2 : Int32).toNatClampNeg 0))]) rfl ?_
      show Steps p.tables e below (T282.setTop (mkF m 405 #[.val (.int p1), .val (.int p2), .val (.int p3), .val (.int p4), .val (.int p5), .val (.int s0), .val (.int s1), .val (.int s2), .val (.int (3 : Int32)), .val (.int b0), .val (.int b1), .val (.int b2), .val (.int bp), .val (.int pr), .val (.ref b15), .val (.int fc), .val (.int (1 : Int32)), .val (.int (re3.getD (0 : Int32).toNatClampNeg 0)), .val (.int (re3.getD (1 : Int32).toNatClampNeg 0)), .val (.int (re3.getD (2 : Int32).toNatClampNeg 0))] [])) _
      refine XS.iload X282.here hx rfl (hb hby at_405) rfl ?_
      show Steps p.tables e below (T282.setTop (mkF m 407 #[.val (.int p1), .val (.int p2), .val (.int p3), .val (.int p4), .val (.int p5), .val (.int s0), .val (.int s1), .val (.int s2), .val (.int (3 : Int32)), .val (.int b0), .val (.int b1), .val (.int b2), .val (.int bp), .val (.int pr), .val (.ref b15), .val (.int fc), .val (.int (1 : Int32)), .val (.int (re3.getD (0 : Int32).toNatClampNeg 0)), .val (.int (re3.getD (1 : Int32).toNatClampNeg 0)), .val (.int (re3.getD (2 : Int32).toNatClampNeg 0))] [(.int (3 : Int32))])) _
      refine XS.iconst X282.here hx rfl (hb hby at_407) ?_
      show Steps p.tables e below (T282.setTop (mkF m 408 #[.val (.int p1), .val (.int p2), .val (.int p3), .val (.int p4), .val (.int p5), .val (.int s0), .val (.int s1), .val (.int s2), .val (.int (3 : Int32)), .val (.int b0), .val (.int b1), .val (.int b2), .val (.int bp), .val (.int pr), .val (.ref b15), .val (.int fc), .val (.int (1 : Int32)), .val (.int (re3.getD (0 : Int32).toNatClampNeg 0)), .val (.int (re3.getD (1 : Int32).toNatClampNeg 0)), .val (.int (re3.getD (2 : Int32).toNatClampNeg 0))] [(.int (1 : Int32)), (.int (3 : Int32))])) _
      refine XS.icmpNo X282.here hx rfl (hb hby at_408) rfl (tlt (by decide)).2.2.2 ?_
      show Steps p.tables e below (T282.setTop (mkF m 411 #[.val (.int p1), .val (.int p2), .val (.int p3), .val (.int p4), .val (.int p5), .val (.int s0), .val (.int s1), .val (.int s2), .val (.int (3 : Int32)), .val (.int b0), .val (.int b1), .val (.int b2), .val (.int bp), .val (.int pr), .val (.ref b15), .val (.int fc), .val (.int (1 : Int32)), .val (.int (re3.getD (0 : Int32).toNatClampNeg 0)), .val (.int (re3.getD (1 : Int32).toNatClampNeg 0)), .val (.int (re3.getD (2 : Int32).toNatClampNeg 0))] [])) _
      refine XS.iload X282.here hx rfl (hb hby at_411) rfl ?_
      show Steps p.tables e below (T282.setTop (mkF m 413 #[.val (.int p1), .val (.int p2), .val (.int p3), .val (.int p4), .val (.int p5), .val (.int s0), .val (.int s1), .val (.int s2), .val (.int (3 : Int32)), .val (.int b0), .val (.int b1), .val (.int b2), .val (.int bp), .val (.int pr), .val (.ref b15), .val (.int fc), .val (.int (1 : Int32)), .val (.int (re3.getD (0 : Int32).toNatClampNeg 0)), .val (.int (re3.getD (1 : Int32).toNatClampNeg 0)), .val (.int (re3.getD (2 : Int32).toNatClampNeg 0))] [(.int (1 : Int32))])) _
      refine XS.ifNo X282.here hx rfl (hb hby at_413) rfl ((if0 _ _).trans (feq (by decide)).1) ?_
      show Steps p.tables e below (T282.setTop (mkF m 416 #[.val (.int p1), .val (.int p2), .val (.int p3), .val (.int p4), .val (.int p5), .val (.int s0), .val (.int s1), .val (.int s2), .val (.int (3 : Int32)), .val (.int b0), .val (.int b1), .val (.int b2), .val (.int bp), .val (.int pr), .val (.ref b15), .val (.int fc), .val (.int (1 : Int32)), .val (.int (re3.getD (0 : Int32).toNatClampNeg 0)), .val (.int (re3.getD (1 : Int32).toNatClampNeg 0)), .val (.int (re3.getD (2 : Int32).toNatClampNeg 0))] [])) _
      refine XS.iload X282.here hx rfl (hb hby at_416) rfl ?_
      show Steps p.tables e below (T282.setTop (mkF m 418 #[.val (.int p1), .val (.int p2), .val (.int p3), .val (.int p4), .val (.int p5), .val (.int s0), .val (.int s1), .val (.int s2), .val (.int (3 : Int32)), .val (.int b0), .val (.int b1), .val (.int b2), .val (.int bp), .val (.int pr), .val (.ref b15), .val (.int fc), .val (.int (1 : Int32)), .val (.int (re3.getD (0 : Int32).toNatClampNeg 0)), .val (.int (re3.getD (1 : Int32).toNatClampNeg 0)), .val (.int (re3.getD (2 : Int32).toNatClampNeg 0))] [(.int (re3.getD (0 : Int32).toNatClampNeg 0))])) _
      refine XS.iload X282.here hx rfl (hb hby at_418) rfl ?_
      show Steps p.tables e below (T282.setTop (mkF m 420 #[.val (.int p1), .val (.int p2), .val (.int p3), .val (.int p4), .val (.int p5), .val (.int s0), .val (.int s1), .val (.int s2), .val (.int (3 : Int32)), .val (.int b0), .val (.int b1), .val (.int b2), .val (.int bp), .val (.int pr), .val (.ref b15), .val (.int fc), .val (.int (1 : Int32)), .val (.int (re3.getD (0 : Int32).toNatClampNeg 0)), .val (.int (re3.getD (1 : Int32).toNatClampNeg 0)), .val (.int (re3.getD (2 : Int32).toNatClampNeg 0))] [(.int (re3.getD (1 : Int32).toNatClampNeg 0)), (.int (re3.getD (0 : Int32).toNatClampNeg 0))])) _
      refine XS.icmpNo X282.here hx rfl (hb hby at_420) rfl (feq r01).1 ?_
      show Steps p.tables e below (T282.setTop (mkF m 423 #[.val (.int p1), .val (.int p2), .val (.int p3), .val (.int p4), .val (.int p5), .val (.int s0), .val (.int s1), .val (.int s2), .val (.int (3 : Int32)), .val (.int b0), .val (.int b1), .val (.int b2), .val (.int bp), .val (.int pr), .val (.ref b15), .val (.int fc), .val (.int (1 : Int32)), .val (.int (re3.getD (0 : Int32).toNatClampNeg 0)), .val (.int (re3.getD (1 : Int32).toNatClampNeg 0)), .val (.int (re3.getD (2 : Int32).toNatClampNeg 0))] [])) _
      refine XS.iconst X282.here hx rfl (hb hby at_423) ?_
      show Steps p.tables e below (T282.setTop (mkF m 424 #[.val (.int p1), .val (.int p2), .val (.int p3), .val (.int p4), .val (.int p5), .val (.int s0), .val (.int s1), .val (.int s2), .val (.int (3 : Int32)), .val (.int b0), .val (.int b1), .val (.int b2), .val (.int bp), .val (.int pr), .val (.ref b15), .val (.int fc), .val (.int (1 : Int32)), .val (.int (re3.getD (0 : Int32).toNatClampNeg 0)), .val (.int (re3.getD (1 : Int32).toNatClampNeg 0)), .val (.int (re3.getD (2 : Int32).toNatClampNeg 0))] [(.int (1 : Int32))])) _
      refine XS.goto X282.here hx rfl (pc0 := 424) (pc' := 428) rfl (hb hby at_424) (by decide) (by decide) ?_
      show Steps p.tables e below (T282.setTop (mkF m 428 #[.val (.int p1), .val (.int p2), .val (.int p3), .val (.int p4), .val (.int p5), .val (.int s0), .val (.int s1), .val (.int s2), .val (.int (3 : Int32)), .val (.int b0), .val (.int b1), .val (.int b2), .val (.int bp), .val (.int pr), .val (.ref b15), .val (.int fc), .val (.int (1 : Int32)), .val (.int (re3.getD (0 : Int32).toNatClampNeg 0)), .val (.int (re3.getD (1 : Int32).toNatClampNeg 0)), .val (.int (re3.getD (2 : Int32).toNatClampNeg 0))] [(.int (1 : Int32))])) _
      refine XS.istore X282.here hx rfl (hb hby at_428) rfl (l' := #[.val (.int p1), .val (.int p2), .val (.int p3), .val (.int p4), .val (.int p5), .val (.int s0), .val (.int s1), .val (.int s2), .val (.int (3 : Int32)), .val (.int b0), .val (.int b1), .val (.int b2), .val (.int bp), .val (.int pr), .val (.ref b15), .val (.int fc), .val (.int (1 : Int32)), .val (.int (re3.getD (0 : Int32).toNatClampNeg 0)), .val (.int (re3.getD (1 : Int32).toNatClampNeg 0)), .val (.int (re3.getD (2 : Int32).toNatClampNeg 0))]) rfl ?_
      show Steps p.tables e below (T282.setTop (mkF m 430 #[.val (.int p1), .val (.int p2), .val (.int p3), .val (.int p4), .val (.int p5), .val (.int s0), .val (.int s1), .val (.int s2), .val (.int (3 : Int32)), .val (.int b0), .val (.int b1), .val (.int b2), .val (.int bp), .val (.int pr), .val (.ref b15), .val (.int fc), .val (.int (1 : Int32)), .val (.int (re3.getD (0 : Int32).toNatClampNeg 0)), .val (.int (re3.getD (1 : Int32).toNatClampNeg 0)), .val (.int (re3.getD (2 : Int32).toNatClampNeg 0))] [])) _
      refine XS.iload X282.here hx rfl (hb hby at_430) rfl ?_
      show Steps p.tables e below (T282.setTop (mkF m 432 #[.val (.int p1), .val (.int p2), .val (.int p3), .val (.int p4), .val (.int p5), .val (.int s0), .val (.int s1), .val (.int s2), .val (.int (3 : Int32)), .val (.int b0), .val (.int b1), .val (.int b2), .val (.int bp), .val (.int pr), .val (.ref b15), .val (.int fc), .val (.int (1 : Int32)), .val (.int (re3.getD (0 : Int32).toNatClampNeg 0)), .val (.int (re3.getD (1 : Int32).toNatClampNeg 0)), .val (.int (re3.getD (2 : Int32).toNatClampNeg 0))] [(.int (3 : Int32))])) _
      refine XS.iconst X282.here hx rfl (hb hby at_432) ?_
      show Steps p.tables e below (T282.setTop (mkF m 433 #[.val (.int p1), .val (.int p2), .val (.int p3), .val (.int p4), .val (.int p5), .val (.int s0), .val (.int s1), .val (.int s2), .val (.int (3 : Int32)), .val (.int b0), .val (.int b1), .val (.int b2), .val (.int bp), .val (.int pr), .val (.ref b15), .val (.int fc), .val (.int (1 : Int32)), .val (.int (re3.getD (0 : Int32).toNatClampNeg 0)), .val (.int (re3.getD (1 : Int32).toNatClampNeg 0)), .val (.int (re3.getD (2 : Int32).toNatClampNeg 0))] [(.int (2 : Int32)), (.int (3 : Int32))])) _
      refine XS.icmpNo X282.here hx rfl (hb hby at_433) rfl (tlt (by decide)).2.2.2 ?_
      show Steps p.tables e below (T282.setTop (mkF m 436 #[.val (.int p1), .val (.int p2), .val (.int p3), .val (.int p4), .val (.int p5), .val (.int s0), .val (.int s1), .val (.int s2), .val (.int (3 : Int32)), .val (.int b0), .val (.int b1), .val (.int b2), .val (.int bp), .val (.int pr), .val (.ref b15), .val (.int fc), .val (.int (1 : Int32)), .val (.int (re3.getD (0 : Int32).toNatClampNeg 0)), .val (.int (re3.getD (1 : Int32).toNatClampNeg 0)), .val (.int (re3.getD (2 : Int32).toNatClampNeg 0))] [])) _
      refine XS.iload X282.here hx rfl (hb hby at_436) rfl ?_
      show Steps p.tables e below (T282.setTop (mkF m 438 #[.val (.int p1), .val (.int p2), .val (.int p3), .val (.int p4), .val (.int p5), .val (.int s0), .val (.int s1), .val (.int s2), .val (.int (3 : Int32)), .val (.int b0), .val (.int b1), .val (.int b2), .val (.int bp), .val (.int pr), .val (.ref b15), .val (.int fc), .val (.int (1 : Int32)), .val (.int (re3.getD (0 : Int32).toNatClampNeg 0)), .val (.int (re3.getD (1 : Int32).toNatClampNeg 0)), .val (.int (re3.getD (2 : Int32).toNatClampNeg 0))] [(.int (1 : Int32))])) _
      refine XS.ifNo X282.here hx rfl (hb hby at_438) rfl ((if0 _ _).trans (feq (by decide)).1) ?_
      show Steps p.tables e below (T282.setTop (mkF m 441 #[.val (.int p1), .val (.int p2), .val (.int p3), .val (.int p4), .val (.int p5), .val (.int s0), .val (.int s1), .val (.int s2), .val (.int (3 : Int32)), .val (.int b0), .val (.int b1), .val (.int b2), .val (.int bp), .val (.int pr), .val (.ref b15), .val (.int fc), .val (.int (1 : Int32)), .val (.int (re3.getD (0 : Int32).toNatClampNeg 0)), .val (.int (re3.getD (1 : Int32).toNatClampNeg 0)), .val (.int (re3.getD (2 : Int32).toNatClampNeg 0))] [])) _
      refine XS.iload X282.here hx rfl (hb hby at_441) rfl ?_
      show Steps p.tables e below (T282.setTop (mkF m 443 #[.val (.int p1), .val (.int p2), .val (.int p3), .val (.int p4), .val (.int p5), .val (.int s0), .val (.int s1), .val (.int s2), .val (.int (3 : Int32)), .val (.int b0), .val (.int b1), .val (.int b2), .val (.int bp), .val (.int pr), .val (.ref b15), .val (.int fc), .val (.int (1 : Int32)), .val (.int (re3.getD (0 : Int32).toNatClampNeg 0)), .val (.int (re3.getD (1 : Int32).toNatClampNeg 0)), .val (.int (re3.getD (2 : Int32).toNatClampNeg 0))] [(.int (re3.getD (0 : Int32).toNatClampNeg 0))])) _
      refine XS.iload X282.here hx rfl (hb hby at_443) rfl ?_
      show Steps p.tables e below (T282.setTop (mkF m 445 #[.val (.int p1), .val (.int p2), .val (.int p3), .val (.int p4), .val (.int p5), .val (.int s0), .val (.int s1), .val (.int s2), .val (.int (3 : Int32)), .val (.int b0), .val (.int b1), .val (.int b2), .val (.int bp), .val (.int pr), .val (.ref b15), .val (.int fc), .val (.int (1 : Int32)), .val (.int (re3.getD (0 : Int32).toNatClampNeg 0)), .val (.int (re3.getD (1 : Int32).toNatClampNeg 0)), .val (.int (re3.getD (2 : Int32).toNatClampNeg 0))] [(.int (re3.getD (2 : Int32).toNatClampNeg 0)), (.int (re3.getD (0 : Int32).toNatClampNeg 0))])) _
      refine XS.icmpNo X282.here hx rfl (hb hby at_445) rfl (feq r02).1 ?_
      show Steps p.tables e below (T282.setTop (mkF m 448 #[.val (.int p1), .val (.int p2), .val (.int p3), .val (.int p4), .val (.int p5), .val (.int s0), .val (.int s1), .val (.int s2), .val (.int (3 : Int32)), .val (.int b0), .val (.int b1), .val (.int b2), .val (.int bp), .val (.int pr), .val (.ref b15), .val (.int fc), .val (.int (1 : Int32)), .val (.int (re3.getD (0 : Int32).toNatClampNeg 0)), .val (.int (re3.getD (1 : Int32).toNatClampNeg 0)), .val (.int (re3.getD (2 : Int32).toNatClampNeg 0))] [])) _
      refine XS.iload X282.here hx rfl (hb hby at_448) rfl ?_
      show Steps p.tables e below (T282.setTop (mkF m 450 #[.val (.int p1), .val (.int p2), .val (.int p3), .val (.int p4), .val (.int p5), .val (.int s0), .val (.int s1), .val (.int s2), .val (.int (3 : Int32)), .val (.int b0), .val (.int b1), .val (.int b2), .val (.int bp), .val (.int pr), .val (.ref b15), .val (.int fc), .val (.int (1 : Int32)), .val (.int (re3.getD (0 : Int32).toNatClampNeg 0)), .val (.int (re3.getD (1 : Int32).toNatClampNeg 0)), .val (.int (re3.getD (2 : Int32).toNatClampNeg 0))] [(.int (re3.getD (1 : Int32).toNatClampNeg 0))])) _
      refine XS.iload X282.here hx rfl (hb hby at_450) rfl ?_
      show Steps p.tables e below (T282.setTop (mkF m 452 #[.val (.int p1), .val (.int p2), .val (.int p3), .val (.int p4), .val (.int p5), .val (.int s0), .val (.int s1), .val (.int s2), .val (.int (3 : Int32)), .val (.int b0), .val (.int b1), .val (.int b2), .val (.int bp), .val (.int pr), .val (.ref b15), .val (.int fc), .val (.int (1 : Int32)), .val (.int (re3.getD (0 : Int32).toNatClampNeg 0)), .val (.int (re3.getD (1 : Int32).toNatClampNeg 0)), .val (.int (re3.getD (2 : Int32).toNatClampNeg 0))] [(.int (re3.getD (2 : Int32).toNatClampNeg 0)), (.int (re3.getD (1 : Int32).toNatClampNeg 0))])) _
      refine XS.icmpNo X282.here hx rfl (hb hby at_452) rfl (feq r12).1 ?_
      show Steps p.tables e below (T282.setTop (mkF m 455 #[.val (.int p1), .val (.int p2), .val (.int p3), .val (.int p4), .val (.int p5), .val (.int s0), .val (.int s1), .val (.int s2), .val (.int (3 : Int32)), .val (.int b0), .val (.int b1), .val (.int b2), .val (.int bp), .val (.int pr), .val (.ref b15), .val (.int fc), .val (.int (1 : Int32)), .val (.int (re3.getD (0 : Int32).toNatClampNeg 0)), .val (.int (re3.getD (1 : Int32).toNatClampNeg 0)), .val (.int (re3.getD (2 : Int32).toNatClampNeg 0))] [])) _
      refine XS.iconst X282.here hx rfl (hb hby at_455) ?_
      show Steps p.tables e below (T282.setTop (mkF m 456 #[.val (.int p1), .val (.int p2), .val (.int p3), .val (.int p4), .val (.int p5), .val (.int s0), .val (.int s1), .val (.int s2), .val (.int (3 : Int32)), .val (.int b0), .val (.int b1), .val (.int b2), .val (.int bp), .val (.int pr), .val (.ref b15), .val (.int fc), .val (.int (1 : Int32)), .val (.int (re3.getD (0 : Int32).toNatClampNeg 0)), .val (.int (re3.getD (1 : Int32).toNatClampNeg 0)), .val (.int (re3.getD (2 : Int32).toNatClampNeg 0))] [(.int (1 : Int32))])) _
      refine XS.goto X282.here hx rfl (pc0 := 456) (pc' := 460) rfl (hb hby at_456) (by decide) (by decide) ?_
      show Steps p.tables e below (T282.setTop (mkF m 460 #[.val (.int p1), .val (.int p2), .val (.int p3), .val (.int p4), .val (.int p5), .val (.int s0), .val (.int s1), .val (.int s2), .val (.int (3 : Int32)), .val (.int b0), .val (.int b1), .val (.int b2), .val (.int bp), .val (.int pr), .val (.ref b15), .val (.int fc), .val (.int (1 : Int32)), .val (.int (re3.getD (0 : Int32).toNatClampNeg 0)), .val (.int (re3.getD (1 : Int32).toNatClampNeg 0)), .val (.int (re3.getD (2 : Int32).toNatClampNeg 0))] [(.int (1 : Int32))])) _
      refine XS.istore X282.here hx rfl (hb hby at_460) rfl (l' := #[.val (.int p1), .val (.int p2), .val (.int p3), .val (.int p4), .val (.int p5), .val (.int s0), .val (.int s1), .val (.int s2), .val (.int (3 : Int32)), .val (.int b0), .val (.int b1), .val (.int b2), .val (.int bp), .val (.int pr), .val (.ref b15), .val (.int fc), .val (.int (1 : Int32)), .val (.int (re3.getD (0 : Int32).toNatClampNeg 0)), .val (.int (re3.getD (1 : Int32).toNatClampNeg 0)), .val (.int (re3.getD (2 : Int32).toNatClampNeg 0))]) rfl ?_
      show Steps p.tables e below (T282.setTop (mkF m 462 #[.val (.int p1), .val (.int p2), .val (.int p3), .val (.int p4), .val (.int p5), .val (.int s0), .val (.int s1), .val (.int s2), .val (.int (3 : Int32)), .val (.int b0), .val (.int b1), .val (.int b2), .val (.int bp), .val (.int pr), .val (.ref b15), .val (.int fc), .val (.int (1 : Int32)), .val (.int (re3.getD (0 : Int32).toNatClampNeg 0)), .val (.int (re3.getD (1 : Int32).toNatClampNeg 0)), .val (.int (re3.getD (2 : Int32).toNatClampNeg 0))] [])) _
      refine XS.iload X282.here hx rfl (hb hby at_462) rfl ?_
      show Steps p.tables e below (T282.setTop (mkF m 464 #[.val (.int p1), .val (.int p2), .val (.int p3), .val (.int p4), .val (.int p5), .val (.int s0), .val (.int s1), .val (.int s2), .val (.int (3 : Int32)), .val (.int b0), .val (.int b1), .val (.int b2), .val (.int bp), .val (.int pr), .val (.ref b15), .val (.int fc), .val (.int (1 : Int32)), .val (.int (re3.getD (0 : Int32).toNatClampNeg 0)), .val (.int (re3.getD (1 : Int32).toNatClampNeg 0)), .val (.int (re3.getD (2 : Int32).toNatClampNeg 0))] [(.int (1 : Int32))])) _
      refine XS.ifNo X282.here hx rfl (hb hby at_464) rfl ((if0 _ _).trans (feq (by decide)).1) ?_
      show Steps p.tables e below (T282.setTop (mkF m 467 #[.val (.int p1), .val (.int p2), .val (.int p3), .val (.int p4), .val (.int p5), .val (.int s0), .val (.int s1), .val (.int s2), .val (.int (3 : Int32)), .val (.int b0), .val (.int b1), .val (.int b2), .val (.int bp), .val (.int pr), .val (.ref b15), .val (.int fc), .val (.int (1 : Int32)), .val (.int (re3.getD (0 : Int32).toNatClampNeg 0)), .val (.int (re3.getD (1 : Int32).toNatClampNeg 0)), .val (.int (re3.getD (2 : Int32).toNatClampNeg 0))] [])) _
      refine XS.aload X282.here hx rfl (hb hby at_467) rfl rfl ?_
      show Steps p.tables e below (T282.setTop (mkF m 469 #[.val (.int p1), .val (.int p2), .val (.int p3), .val (.int p4), .val (.int p5), .val (.int s0), .val (.int s1), .val (.int s2), .val (.int (3 : Int32)), .val (.int b0), .val (.int b1), .val (.int b2), .val (.int bp), .val (.int pr), .val (.ref b15), .val (.int fc), .val (.int (1 : Int32)), .val (.int (re3.getD (0 : Int32).toNatClampNeg 0)), .val (.int (re3.getD (1 : Int32).toNatClampNeg 0)), .val (.int (re3.getD (2 : Int32).toNatClampNeg 0))] [(.ref b15)])) _
      refine XS.iconst X282.here hx rfl (hb hby at_469) ?_
      show Steps p.tables e below (T282.setTop (mkF m 470 #[.val (.int p1), .val (.int p2), .val (.int p3), .val (.int p4), .val (.int p5), .val (.int s0), .val (.int s1), .val (.int s2), .val (.int (3 : Int32)), .val (.int b0), .val (.int b1), .val (.int b2), .val (.int bp), .val (.int pr), .val (.ref b15), .val (.int fc), .val (.int (1 : Int32)), .val (.int (re3.getD (0 : Int32).toNatClampNeg 0)), .val (.int (re3.getD (1 : Int32).toNatClampNeg 0)), .val (.int (re3.getD (2 : Int32).toNatClampNeg 0))] [(.int (0 : Int32)), (.ref b15)])) _
      refine st283.trans ?_
      show Steps p.tables e below (T283.setTop (mkF m 473 #[.val (.int p1), .val (.int p2), .val (.int p3), .val (.int p4), .val (.int p5), .val (.int s0), .val (.int s1), .val (.int s2), .val (.int (3 : Int32)), .val (.int b0), .val (.int b1), .val (.int b2), .val (.int bp), .val (.int pr), .val (.ref b15), .val (.int fc), .val (.int (1 : Int32)), .val (.int (re3.getD (0 : Int32).toNatClampNeg 0)), .val (.int (re3.getD (1 : Int32).toNatClampNeg 0)), .val (.int (re3.getD (2 : Int32).toNatClampNeg 0))] [(.int (own_ism (0 : Int32) rm3 ((0 + 1) + 1)))])) _
      refine XS.iconst X283.here hx rfl (hb hby at_473) ?_
      show Steps p.tables e below (T283.setTop (mkF m 474 #[.val (.int p1), .val (.int p2), .val (.int p3), .val (.int p4), .val (.int p5), .val (.int s0), .val (.int s1), .val (.int s2), .val (.int (3 : Int32)), .val (.int b0), .val (.int b1), .val (.int b2), .val (.int bp), .val (.int pr), .val (.ref b15), .val (.int fc), .val (.int (1 : Int32)), .val (.int (re3.getD (0 : Int32).toNatClampNeg 0)), .val (.int (re3.getD (1 : Int32).toNatClampNeg 0)), .val (.int (re3.getD (2 : Int32).toNatClampNeg 0))] [(.int (0 : Int32)), (.int (own_ism (0 : Int32) rm3 ((0 + 1) + 1)))])) _
      refine XS.iload X283.here hx rfl (hb hby at_474) rfl ?_
      show Steps p.tables e below (T283.setTop (mkF m 476 #[.val (.int p1), .val (.int p2), .val (.int p3), .val (.int p4), .val (.int p5), .val (.int s0), .val (.int s1), .val (.int s2), .val (.int (3 : Int32)), .val (.int b0), .val (.int b1), .val (.int b2), .val (.int bp), .val (.int pr), .val (.ref b15), .val (.int fc), .val (.int (1 : Int32)), .val (.int (re3.getD (0 : Int32).toNatClampNeg 0)), .val (.int (re3.getD (1 : Int32).toNatClampNeg 0)), .val (.int (re3.getD (2 : Int32).toNatClampNeg 0))] [(.int (3 : Int32)), (.int (0 : Int32)), (.int (own_ism (0 : Int32) rm3 ((0 + 1) + 1)))])) _
      refine XS.iload X283.here hx rfl (hb hby at_476) rfl ?_
      show Steps p.tables e below (T283.setTop (mkF m 478 #[.val (.int p1), .val (.int p2), .val (.int p3), .val (.int p4), .val (.int p5), .val (.int s0), .val (.int s1), .val (.int s2), .val (.int (3 : Int32)), .val (.int b0), .val (.int b1), .val (.int b2), .val (.int bp), .val (.int pr), .val (.ref b15), .val (.int fc), .val (.int (1 : Int32)), .val (.int (re3.getD (0 : Int32).toNatClampNeg 0)), .val (.int (re3.getD (1 : Int32).toNatClampNeg 0)), .val (.int (re3.getD (2 : Int32).toNatClampNeg 0))] [(.int s0), (.int (3 : Int32)), (.int (0 : Int32)), (.int (own_ism (0 : Int32) rm3 ((0 + 1) + 1)))])) _
      refine XS.iload X283.here hx rfl (hb hby at_478) rfl ?_
      show Steps p.tables e below (T283.setTop (mkF m 480 #[.val (.int p1), .val (.int p2), .val (.int p3), .val (.int p4), .val (.int p5), .val (.int s0), .val (.int s1), .val (.int s2), .val (.int (3 : Int32)), .val (.int b0), .val (.int b1), .val (.int b2), .val (.int bp), .val (.int pr), .val (.ref b15), .val (.int fc), .val (.int (1 : Int32)), .val (.int (re3.getD (0 : Int32).toNatClampNeg 0)), .val (.int (re3.getD (1 : Int32).toNatClampNeg 0)), .val (.int (re3.getD (2 : Int32).toNatClampNeg 0))] [(.int s1), (.int s0), (.int (3 : Int32)), (.int (0 : Int32)), (.int (own_ism (0 : Int32) rm3 ((0 + 1) + 1)))])) _
      refine XS.iload X283.here hx rfl (hb hby at_480) rfl ?_
      show Steps p.tables e below (T283.setTop (mkF m 482 #[.val (.int p1), .val (.int p2), .val (.int p3), .val (.int p4), .val (.int p5), .val (.int s0), .val (.int s1), .val (.int s2), .val (.int (3 : Int32)), .val (.int b0), .val (.int b1), .val (.int b2), .val (.int bp), .val (.int pr), .val (.ref b15), .val (.int fc), .val (.int (1 : Int32)), .val (.int (re3.getD (0 : Int32).toNatClampNeg 0)), .val (.int (re3.getD (1 : Int32).toNatClampNeg 0)), .val (.int (re3.getD (2 : Int32).toNatClampNeg 0))] [(.int s2), (.int s1), (.int s0), (.int (3 : Int32)), (.int (0 : Int32)), (.int (own_ism (0 : Int32) rm3 ((0 + 1) + 1)))])) _
      refine st284 _ ?_
      show Steps p.tables e below (T284.setTop (mkF m 485 #[.val (.int p1), .val (.int p2), .val (.int p3), .val (.int p4), .val (.int p5), .val (.int s0), .val (.int s1), .val (.int s2), .val (.int (3 : Int32)), .val (.int b0), .val (.int b1), .val (.int b2), .val (.int bp), .val (.int pr), .val (.ref b15), .val (.int fc), .val (.int (1 : Int32)), .val (.int (re3.getD (0 : Int32).toNatClampNeg 0)), .val (.int (re3.getD (1 : Int32).toNatClampNeg 0)), .val (.int (re3.getD (2 : Int32).toNatClampNeg 0))] [(.int (own_exp (0 : Int32) (3 : Int32) s0 s1 s2)), (.int (own_ism (0 : Int32) rm3 ((0 + 1) + 1)))])) _
      refine XS.icmpNo X284.here hx rfl (hb hby at_485) rfl (teq im0).2 ?_
      show Steps p.tables e below (T284.setTop (mkF m 488 #[.val (.int p1), .val (.int p2), .val (.int p3), .val (.int p4), .val (.int p5), .val (.int s0), .val (.int s1), .val (.int s2), .val (.int (3 : Int32)), .val (.int b0), .val (.int b1), .val (.int b2), .val (.int bp), .val (.int pr), .val (.ref b15), .val (.int fc), .val (.int (1 : Int32)), .val (.int (re3.getD (0 : Int32).toNatClampNeg 0)), .val (.int (re3.getD (1 : Int32).toNatClampNeg 0)), .val (.int (re3.getD (2 : Int32).toNatClampNeg 0))] [])) _
      refine XS.iconst X284.here hx rfl (hb hby at_488) ?_
      show Steps p.tables e below (T284.setTop (mkF m 489 #[.val (.int p1), .val (.int p2), .val (.int p3), .val (.int p4), .val (.int p5), .val (.int s0), .val (.int s1), .val (.int s2), .val (.int (3 : Int32)), .val (.int b0), .val (.int b1), .val (.int b2), .val (.int bp), .val (.int pr), .val (.ref b15), .val (.int fc), .val (.int (1 : Int32)), .val (.int (re3.getD (0 : Int32).toNatClampNeg 0)), .val (.int (re3.getD (1 : Int32).toNatClampNeg 0)), .val (.int (re3.getD (2 : Int32).toNatClampNeg 0))] [(.int (1 : Int32))])) _
      refine XS.goto X284.here hx rfl (pc0 := 489) (pc' := 493) rfl (hb hby at_489) (by decide) (by decide) ?_
      show Steps p.tables e below (T284.setTop (mkF m 493 #[.val (.int p1), .val (.int p2), .val (.int p3), .val (.int p4), .val (.int p5), .val (.int s0), .val (.int s1), .val (.int s2), .val (.int (3 : Int32)), .val (.int b0), .val (.int b1), .val (.int b2), .val (.int bp), .val (.int pr), .val (.ref b15), .val (.int fc), .val (.int (1 : Int32)), .val (.int (re3.getD (0 : Int32).toNatClampNeg 0)), .val (.int (re3.getD (1 : Int32).toNatClampNeg 0)), .val (.int (re3.getD (2 : Int32).toNatClampNeg 0))] [(.int (1 : Int32))])) _
      refine XS.istore X284.here hx rfl (hb hby at_493) rfl (l' := #[.val (.int p1), .val (.int p2), .val (.int p3), .val (.int p4), .val (.int p5), .val (.int s0), .val (.int s1), .val (.int s2), .val (.int (3 : Int32)), .val (.int b0), .val (.int b1), .val (.int b2), .val (.int bp), .val (.int pr), .val (.ref b15), .val (.int fc), .val (.int (1 : Int32)), .val (.int (re3.getD (0 : Int32).toNatClampNeg 0)), .val (.int (re3.getD (1 : Int32).toNatClampNeg 0)), .val (.int (re3.getD (2 : Int32).toNatClampNeg 0))]) rfl ?_
      show Steps p.tables e below (T284.setTop (mkF m 495 #[.val (.int p1), .val (.int p2), .val (.int p3), .val (.int p4), .val (.int p5), .val (.int s0), .val (.int s1), .val (.int s2), .val (.int (3 : Int32)), .val (.int b0), .val (.int b1), .val (.int b2), .val (.int bp), .val (.int pr), .val (.ref b15), .val (.int fc), .val (.int (1 : Int32)), .val (.int (re3.getD (0 : Int32).toNatClampNeg 0)), .val (.int (re3.getD (1 : Int32).toNatClampNeg 0)), .val (.int (re3.getD (2 : Int32).toNatClampNeg 0))] [])) _
      refine XS.iload X284.here hx rfl (hb hby at_495) rfl ?_
      show Steps p.tables e below (T284.setTop (mkF m 497 #[.val (.int p1), .val (.int p2), .val (.int p3), .val (.int p4), .val (.int p5), .val (.int s0), .val (.int s1), .val (.int s2), .val (.int (3 : Int32)), .val (.int b0), .val (.int b1), .val (.int b2), .val (.int bp), .val (.int pr), .val (.ref b15), .val (.int fc), .val (.int (1 : Int32)), .val (.int (re3.getD (0 : Int32).toNatClampNeg 0)), .val (.int (re3.getD (1 : Int32).toNatClampNeg 0)), .val (.int (re3.getD (2 : Int32).toNatClampNeg 0))] [(.int (1 : Int32))])) _
      refine XS.ifNo X284.here hx rfl (hb hby at_497) rfl ((if0 _ _).trans (feq (by decide)).1) ?_
      show Steps p.tables e below (T284.setTop (mkF m 500 #[.val (.int p1), .val (.int p2), .val (.int p3), .val (.int p4), .val (.int p5), .val (.int s0), .val (.int s1), .val (.int s2), .val (.int (3 : Int32)), .val (.int b0), .val (.int b1), .val (.int b2), .val (.int bp), .val (.int pr), .val (.ref b15), .val (.int fc), .val (.int (1 : Int32)), .val (.int (re3.getD (0 : Int32).toNatClampNeg 0)), .val (.int (re3.getD (1 : Int32).toNatClampNeg 0)), .val (.int (re3.getD (2 : Int32).toNatClampNeg 0))] [])) _
      refine XS.aload X284.here hx rfl (hb hby at_500) rfl rfl ?_
      show Steps p.tables e below (T284.setTop (mkF m 502 #[.val (.int p1), .val (.int p2), .val (.int p3), .val (.int p4), .val (.int p5), .val (.int s0), .val (.int s1), .val (.int s2), .val (.int (3 : Int32)), .val (.int b0), .val (.int b1), .val (.int b2), .val (.int bp), .val (.int pr), .val (.ref b15), .val (.int fc), .val (.int (1 : Int32)), .val (.int (re3.getD (0 : Int32).toNatClampNeg 0)), .val (.int (re3.getD (1 : Int32).toNatClampNeg 0)), .val (.int (re3.getD (2 : Int32).toNatClampNeg 0))] [(.ref b15)])) _
      refine XS.iconst X284.here hx rfl (hb hby at_502) ?_
      show Steps p.tables e below (T284.setTop (mkF m 503 #[.val (.int p1), .val (.int p2), .val (.int p3), .val (.int p4), .val (.int p5), .val (.int s0), .val (.int s1), .val (.int s2), .val (.int (3 : Int32)), .val (.int b0), .val (.int b1), .val (.int b2), .val (.int bp), .val (.int pr), .val (.ref b15), .val (.int fc), .val (.int (1 : Int32)), .val (.int (re3.getD (0 : Int32).toNatClampNeg 0)), .val (.int (re3.getD (1 : Int32).toNatClampNeg 0)), .val (.int (re3.getD (2 : Int32).toNatClampNeg 0))] [(.int (1 : Int32)), (.ref b15)])) _
      refine st285.trans ?_
      show Steps p.tables e below (T285.setTop (mkF m 506 #[.val (.int p1), .val (.int p2), .val (.int p3), .val (.int p4), .val (.int p5), .val (.int s0), .val (.int s1), .val (.int s2), .val (.int (3 : Int32)), .val (.int b0), .val (.int b1), .val (.int b2), .val (.int bp), .val (.int pr), .val (.ref b15), .val (.int fc), .val (.int (1 : Int32)), .val (.int (re3.getD (0 : Int32).toNatClampNeg 0)), .val (.int (re3.getD (1 : Int32).toNatClampNeg 0)), .val (.int (re3.getD (2 : Int32).toNatClampNeg 0))] [(.int (own_ism (1 : Int32) rm3 ((0 + 1) + 1)))])) _
      refine XS.iconst X285.here hx rfl (hb hby at_506) ?_
      show Steps p.tables e below (T285.setTop (mkF m 507 #[.val (.int p1), .val (.int p2), .val (.int p3), .val (.int p4), .val (.int p5), .val (.int s0), .val (.int s1), .val (.int s2), .val (.int (3 : Int32)), .val (.int b0), .val (.int b1), .val (.int b2), .val (.int bp), .val (.int pr), .val (.ref b15), .val (.int fc), .val (.int (1 : Int32)), .val (.int (re3.getD (0 : Int32).toNatClampNeg 0)), .val (.int (re3.getD (1 : Int32).toNatClampNeg 0)), .val (.int (re3.getD (2 : Int32).toNatClampNeg 0))] [(.int (1 : Int32)), (.int (own_ism (1 : Int32) rm3 ((0 + 1) + 1)))])) _
      refine XS.iload X285.here hx rfl (hb hby at_507) rfl ?_
      show Steps p.tables e below (T285.setTop (mkF m 509 #[.val (.int p1), .val (.int p2), .val (.int p3), .val (.int p4), .val (.int p5), .val (.int s0), .val (.int s1), .val (.int s2), .val (.int (3 : Int32)), .val (.int b0), .val (.int b1), .val (.int b2), .val (.int bp), .val (.int pr), .val (.ref b15), .val (.int fc), .val (.int (1 : Int32)), .val (.int (re3.getD (0 : Int32).toNatClampNeg 0)), .val (.int (re3.getD (1 : Int32).toNatClampNeg 0)), .val (.int (re3.getD (2 : Int32).toNatClampNeg 0))] [(.int (3 : Int32)), (.int (1 : Int32)), (.int (own_ism (1 : Int32) rm3 ((0 + 1) + 1)))])) _
      refine XS.iload X285.here hx rfl (hb hby at_509) rfl ?_
      show Steps p.tables e below (T285.setTop (mkF m 511 #[.val (.int p1), .val (.int p2), .val (.int p3), .val (.int p4), .val (.int p5), .val (.int s0), .val (.int s1), .val (.int s2), .val (.int (3 : Int32)), .val (.int b0), .val (.int b1), .val (.int b2), .val (.int bp), .val (.int pr), .val (.ref b15), .val (.int fc), .val (.int (1 : Int32)), .val (.int (re3.getD (0 : Int32).toNatClampNeg 0)), .val (.int (re3.getD (1 : Int32).toNatClampNeg 0)), .val (.int (re3.getD (2 : Int32).toNatClampNeg 0))] [(.int s0), (.int (3 : Int32)), (.int (1 : Int32)), (.int (own_ism (1 : Int32) rm3 ((0 + 1) + 1)))])) _
      refine XS.iload X285.here hx rfl (hb hby at_511) rfl ?_
      show Steps p.tables e below (T285.setTop (mkF m 513 #[.val (.int p1), .val (.int p2), .val (.int p3), .val (.int p4), .val (.int p5), .val (.int s0), .val (.int s1), .val (.int s2), .val (.int (3 : Int32)), .val (.int b0), .val (.int b1), .val (.int b2), .val (.int bp), .val (.int pr), .val (.ref b15), .val (.int fc), .val (.int (1 : Int32)), .val (.int (re3.getD (0 : Int32).toNatClampNeg 0)), .val (.int (re3.getD (1 : Int32).toNatClampNeg 0)), .val (.int (re3.getD (2 : Int32).toNatClampNeg 0))] [(.int s1), (.int s0), (.int (3 : Int32)), (.int (1 : Int32)), (.int (own_ism (1 : Int32) rm3 ((0 + 1) + 1)))])) _
      refine XS.iload X285.here hx rfl (hb hby at_513) rfl ?_
      show Steps p.tables e below (T285.setTop (mkF m 515 #[.val (.int p1), .val (.int p2), .val (.int p3), .val (.int p4), .val (.int p5), .val (.int s0), .val (.int s1), .val (.int s2), .val (.int (3 : Int32)), .val (.int b0), .val (.int b1), .val (.int b2), .val (.int bp), .val (.int pr), .val (.ref b15), .val (.int fc), .val (.int (1 : Int32)), .val (.int (re3.getD (0 : Int32).toNatClampNeg 0)), .val (.int (re3.getD (1 : Int32).toNatClampNeg 0)), .val (.int (re3.getD (2 : Int32).toNatClampNeg 0))] [(.int s2), (.int s1), (.int s0), (.int (3 : Int32)), (.int (1 : Int32)), (.int (own_ism (1 : Int32) rm3 ((0 + 1) + 1)))])) _
      refine st286 _ ?_
      show Steps p.tables e below (T286.setTop (mkF m 518 #[.val (.int p1), .val (.int p2), .val (.int p3), .val (.int p4), .val (.int p5), .val (.int s0), .val (.int s1), .val (.int s2), .val (.int (3 : Int32)), .val (.int b0), .val (.int b1), .val (.int b2), .val (.int bp), .val (.int pr), .val (.ref b15), .val (.int fc), .val (.int (1 : Int32)), .val (.int (re3.getD (0 : Int32).toNatClampNeg 0)), .val (.int (re3.getD (1 : Int32).toNatClampNeg 0)), .val (.int (re3.getD (2 : Int32).toNatClampNeg 0))] [(.int (own_exp (1 : Int32) (3 : Int32) s0 s1 s2)), (.int (own_ism (1 : Int32) rm3 ((0 + 1) + 1)))])) _
      refine XS.icmpNo X286.here hx rfl (hb hby at_518) rfl (teq im1).2 ?_
      show Steps p.tables e below (T286.setTop (mkF m 521 #[.val (.int p1), .val (.int p2), .val (.int p3), .val (.int p4), .val (.int p5), .val (.int s0), .val (.int s1), .val (.int s2), .val (.int (3 : Int32)), .val (.int b0), .val (.int b1), .val (.int b2), .val (.int bp), .val (.int pr), .val (.ref b15), .val (.int fc), .val (.int (1 : Int32)), .val (.int (re3.getD (0 : Int32).toNatClampNeg 0)), .val (.int (re3.getD (1 : Int32).toNatClampNeg 0)), .val (.int (re3.getD (2 : Int32).toNatClampNeg 0))] [])) _
      refine XS.iconst X286.here hx rfl (hb hby at_521) ?_
      show Steps p.tables e below (T286.setTop (mkF m 522 #[.val (.int p1), .val (.int p2), .val (.int p3), .val (.int p4), .val (.int p5), .val (.int s0), .val (.int s1), .val (.int s2), .val (.int (3 : Int32)), .val (.int b0), .val (.int b1), .val (.int b2), .val (.int bp), .val (.int pr), .val (.ref b15), .val (.int fc), .val (.int (1 : Int32)), .val (.int (re3.getD (0 : Int32).toNatClampNeg 0)), .val (.int (re3.getD (1 : Int32).toNatClampNeg 0)), .val (.int (re3.getD (2 : Int32).toNatClampNeg 0))] [(.int (1 : Int32))])) _
      refine XS.goto X286.here hx rfl (pc0 := 522) (pc' := 526) rfl (hb hby at_522) (by decide) (by decide) ?_
      show Steps p.tables e below (T286.setTop (mkF m 526 #[.val (.int p1), .val (.int p2), .val (.int p3), .val (.int p4), .val (.int p5), .val (.int s0), .val (.int s1), .val (.int s2), .val (.int (3 : Int32)), .val (.int b0), .val (.int b1), .val (.int b2), .val (.int bp), .val (.int pr), .val (.ref b15), .val (.int fc), .val (.int (1 : Int32)), .val (.int (re3.getD (0 : Int32).toNatClampNeg 0)), .val (.int (re3.getD (1 : Int32).toNatClampNeg 0)), .val (.int (re3.getD (2 : Int32).toNatClampNeg 0))] [(.int (1 : Int32))])) _
      refine XS.istore X286.here hx rfl (hb hby at_526) rfl (l' := #[.val (.int p1), .val (.int p2), .val (.int p3), .val (.int p4), .val (.int p5), .val (.int s0), .val (.int s1), .val (.int s2), .val (.int (3 : Int32)), .val (.int b0), .val (.int b1), .val (.int b2), .val (.int bp), .val (.int pr), .val (.ref b15), .val (.int fc), .val (.int (1 : Int32)), .val (.int (re3.getD (0 : Int32).toNatClampNeg 0)), .val (.int (re3.getD (1 : Int32).toNatClampNeg 0)), .val (.int (re3.getD (2 : Int32).toNatClampNeg 0))]) rfl ?_
      show Steps p.tables e below (T286.setTop (mkF m 528 #[.val (.int p1), .val (.int p2), .val (.int p3), .val (.int p4), .val (.int p5), .val (.int s0), .val (.int s1), .val (.int s2), .val (.int (3 : Int32)), .val (.int b0), .val (.int b1), .val (.int b2), .val (.int bp), .val (.int pr), .val (.ref b15), .val (.int fc), .val (.int (1 : Int32)), .val (.int (re3.getD (0 : Int32).toNatClampNeg 0)), .val (.int (re3.getD (1 : Int32).toNatClampNeg 0)), .val (.int (re3.getD (2 : Int32).toNatClampNeg 0))] [])) _
      refine XS.iload X286.here hx rfl (hb hby at_528) rfl ?_
      show Steps p.tables e below (T286.setTop (mkF m 530 #[.val (.int p1), .val (.int p2), .val (.int p3), .val (.int p4), .val (.int p5), .val (.int s0), .val (.int s1), .val (.int s2), .val (.int (3 : Int32)), .val (.int b0), .val (.int b1), .val (.int b2), .val (.int bp), .val (.int pr), .val (.ref b15), .val (.int fc), .val (.int (1 : Int32)), .val (.int (re3.getD (0 : Int32).toNatClampNeg 0)), .val (.int (re3.getD (1 : Int32).toNatClampNeg 0)), .val (.int (re3.getD (2 : Int32).toNatClampNeg 0))] [(.int (1 : Int32))])) _
      refine XS.ifNo X286.here hx rfl (hb hby at_530) rfl ((if0 _ _).trans (feq (by decide)).1) ?_
      show Steps p.tables e below (T286.setTop (mkF m 533 #[.val (.int p1), .val (.int p2), .val (.int p3), .val (.int p4), .val (.int p5), .val (.int s0), .val (.int s1), .val (.int s2), .val (.int (3 : Int32)), .val (.int b0), .val (.int b1), .val (.int b2), .val (.int bp), .val (.int pr), .val (.ref b15), .val (.int fc), .val (.int (1 : Int32)), .val (.int (re3.getD (0 : Int32).toNatClampNeg 0)), .val (.int (re3.getD (1 : Int32).toNatClampNeg 0)), .val (.int (re3.getD (2 : Int32).toNatClampNeg 0))] [])) _
      refine XS.aload X286.here hx rfl (hb hby at_533) rfl rfl ?_
      show Steps p.tables e below (T286.setTop (mkF m 535 #[.val (.int p1), .val (.int p2), .val (.int p3), .val (.int p4), .val (.int p5), .val (.int s0), .val (.int s1), .val (.int s2), .val (.int (3 : Int32)), .val (.int b0), .val (.int b1), .val (.int b2), .val (.int bp), .val (.int pr), .val (.ref b15), .val (.int fc), .val (.int (1 : Int32)), .val (.int (re3.getD (0 : Int32).toNatClampNeg 0)), .val (.int (re3.getD (1 : Int32).toNatClampNeg 0)), .val (.int (re3.getD (2 : Int32).toNatClampNeg 0))] [(.ref b15)])) _
      refine XS.iconst X286.here hx rfl (hb hby at_535) ?_
      show Steps p.tables e below (T286.setTop (mkF m 536 #[.val (.int p1), .val (.int p2), .val (.int p3), .val (.int p4), .val (.int p5), .val (.int s0), .val (.int s1), .val (.int s2), .val (.int (3 : Int32)), .val (.int b0), .val (.int b1), .val (.int b2), .val (.int bp), .val (.int pr), .val (.ref b15), .val (.int fc), .val (.int (1 : Int32)), .val (.int (re3.getD (0 : Int32).toNatClampNeg 0)), .val (.int (re3.getD (1 : Int32).toNatClampNeg 0)), .val (.int (re3.getD (2 : Int32).toNatClampNeg 0))] [(.int (2 : Int32)), (.ref b15)])) _
      refine st287.trans ?_
      show Steps p.tables e below (T287.setTop (mkF m 539 #[.val (.int p1), .val (.int p2), .val (.int p3), .val (.int p4), .val (.int p5), .val (.int s0), .val (.int s1), .val (.int s2), .val (.int (3 : Int32)), .val (.int b0), .val (.int b1), .val (.int b2), .val (.int bp), .val (.int pr), .val (.ref b15), .val (.int fc), .val (.int (1 : Int32)), .val (.int (re3.getD (0 : Int32).toNatClampNeg 0)), .val (.int (re3.getD (1 : Int32).toNatClampNeg 0)), .val (.int (re3.getD (2 : Int32).toNatClampNeg 0))] [(.int (own_ism (2 : Int32) rm3 ((0 + 1) + 1)))])) _
      refine XS.iconst X287.here hx rfl (hb hby at_539) ?_
      show Steps p.tables e below (T287.setTop (mkF m 540 #[.val (.int p1), .val (.int p2), .val (.int p3), .val (.int p4), .val (.int p5), .val (.int s0), .val (.int s1), .val (.int s2), .val (.int (3 : Int32)), .val (.int b0), .val (.int b1), .val (.int b2), .val (.int bp), .val (.int pr), .val (.ref b15), .val (.int fc), .val (.int (1 : Int32)), .val (.int (re3.getD (0 : Int32).toNatClampNeg 0)), .val (.int (re3.getD (1 : Int32).toNatClampNeg 0)), .val (.int (re3.getD (2 : Int32).toNatClampNeg 0))] [(.int (2 : Int32)), (.int (own_ism (2 : Int32) rm3 ((0 + 1) + 1)))])) _
      refine XS.iload X287.here hx rfl (hb hby at_540) rfl ?_
      show Steps p.tables e below (T287.setTop (mkF m 542 #[.val (.int p1), .val (.int p2), .val (.int p3), .val (.int p4), .val (.int p5), .val (.int s0), .val (.int s1), .val (.int s2), .val (.int (3 : Int32)), .val (.int b0), .val (.int b1), .val (.int b2), .val (.int bp), .val (.int pr), .val (.ref b15), .val (.int fc), .val (.int (1 : Int32)), .val (.int (re3.getD (0 : Int32).toNatClampNeg 0)), .val (.int (re3.getD (1 : Int32).toNatClampNeg 0)), .val (.int (re3.getD (2 : Int32).toNatClampNeg 0))] [(.int (3 : Int32)), (.int (2 : Int32)), (.int (own_ism (2 : Int32) rm3 ((0 + 1) + 1)))])) _
      refine XS.iload X287.here hx rfl (hb hby at_542) rfl ?_
      show Steps p.tables e below (T287.setTop (mkF m 544 #[.val (.int p1), .val (.int p2), .val (.int p3), .val (.int p4), .val (.int p5), .val (.int s0), .val (.int s1), .val (.int s2), .val (.int (3 : Int32)), .val (.int b0), .val (.int b1), .val (.int b2), .val (.int bp), .val (.int pr), .val (.ref b15), .val (.int fc), .val (.int (1 : Int32)), .val (.int (re3.getD (0 : Int32).toNatClampNeg 0)), .val (.int (re3.getD (1 : Int32).toNatClampNeg 0)), .val (.int (re3.getD (2 : Int32).toNatClampNeg 0))] [(.int s0), (.int (3 : Int32)), (.int (2 : Int32)), (.int (own_ism (2 : Int32) rm3 ((0 + 1) + 1)))])) _
      refine XS.iload X287.here hx rfl (hb hby at_544) rfl ?_
      show Steps p.tables e below (T287.setTop (mkF m 546 #[.val (.int p1), .val (.int p2), .val (.int p3), .val (.int p4), .val (.int p5), .val (.int s0), .val (.int s1), .val (.int s2), .val (.int (3 : Int32)), .val (.int b0), .val (.int b1), .val (.int b2), .val (.int bp), .val (.int pr), .val (.ref b15), .val (.int fc), .val (.int (1 : Int32)), .val (.int (re3.getD (0 : Int32).toNatClampNeg 0)), .val (.int (re3.getD (1 : Int32).toNatClampNeg 0)), .val (.int (re3.getD (2 : Int32).toNatClampNeg 0))] [(.int s1), (.int s0), (.int (3 : Int32)), (.int (2 : Int32)), (.int (own_ism (2 : Int32) rm3 ((0 + 1) + 1)))])) _
      refine XS.iload X287.here hx rfl (hb hby at_546) rfl ?_
      show Steps p.tables e below (T287.setTop (mkF m 548 #[.val (.int p1), .val (.int p2), .val (.int p3), .val (.int p4), .val (.int p5), .val (.int s0), .val (.int s1), .val (.int s2), .val (.int (3 : Int32)), .val (.int b0), .val (.int b1), .val (.int b2), .val (.int bp), .val (.int pr), .val (.ref b15), .val (.int fc), .val (.int (1 : Int32)), .val (.int (re3.getD (0 : Int32).toNatClampNeg 0)), .val (.int (re3.getD (1 : Int32).toNatClampNeg 0)), .val (.int (re3.getD (2 : Int32).toNatClampNeg 0))] [(.int s2), (.int s1), (.int s0), (.int (3 : Int32)), (.int (2 : Int32)), (.int (own_ism (2 : Int32) rm3 ((0 + 1) + 1)))])) _
      refine st288 _ ?_
      show Steps p.tables e below (T288.setTop (mkF m 551 #[.val (.int p1), .val (.int p2), .val (.int p3), .val (.int p4), .val (.int p5), .val (.int s0), .val (.int s1), .val (.int s2), .val (.int (3 : Int32)), .val (.int b0), .val (.int b1), .val (.int b2), .val (.int bp), .val (.int pr), .val (.ref b15), .val (.int fc), .val (.int (1 : Int32)), .val (.int (re3.getD (0 : Int32).toNatClampNeg 0)), .val (.int (re3.getD (1 : Int32).toNatClampNeg 0)), .val (.int (re3.getD (2 : Int32).toNatClampNeg 0))] [(.int (own_exp (2 : Int32) (3 : Int32) s0 s1 s2)), (.int (own_ism (2 : Int32) rm3 ((0 + 1) + 1)))])) _
      refine XS.icmpNo X288.here hx rfl (hb hby at_551) rfl (teq im2).2 ?_
      show Steps p.tables e below (T288.setTop (mkF m 554 #[.val (.int p1), .val (.int p2), .val (.int p3), .val (.int p4), .val (.int p5), .val (.int s0), .val (.int s1), .val (.int s2), .val (.int (3 : Int32)), .val (.int b0), .val (.int b1), .val (.int b2), .val (.int bp), .val (.int pr), .val (.ref b15), .val (.int fc), .val (.int (1 : Int32)), .val (.int (re3.getD (0 : Int32).toNatClampNeg 0)), .val (.int (re3.getD (1 : Int32).toNatClampNeg 0)), .val (.int (re3.getD (2 : Int32).toNatClampNeg 0))] [])) _
      refine XS.iconst X288.here hx rfl (hb hby at_554) ?_
      show Steps p.tables e below (T288.setTop (mkF m 555 #[.val (.int p1), .val (.int p2), .val (.int p3), .val (.int p4), .val (.int p5), .val (.int s0), .val (.int s1), .val (.int s2), .val (.int (3 : Int32)), .val (.int b0), .val (.int b1), .val (.int b2), .val (.int bp), .val (.int pr), .val (.ref b15), .val (.int fc), .val (.int (1 : Int32)), .val (.int (re3.getD (0 : Int32).toNatClampNeg 0)), .val (.int (re3.getD (1 : Int32).toNatClampNeg 0)), .val (.int (re3.getD (2 : Int32).toNatClampNeg 0))] [(.int (1 : Int32))])) _
      refine XS.goto X288.here hx rfl (pc0 := 555) (pc' := 559) rfl (hb hby at_555) (by decide) (by decide) ?_
      show Steps p.tables e below (T288.setTop (mkF m 559 #[.val (.int p1), .val (.int p2), .val (.int p3), .val (.int p4), .val (.int p5), .val (.int s0), .val (.int s1), .val (.int s2), .val (.int (3 : Int32)), .val (.int b0), .val (.int b1), .val (.int b2), .val (.int bp), .val (.int pr), .val (.ref b15), .val (.int fc), .val (.int (1 : Int32)), .val (.int (re3.getD (0 : Int32).toNatClampNeg 0)), .val (.int (re3.getD (1 : Int32).toNatClampNeg 0)), .val (.int (re3.getD (2 : Int32).toNatClampNeg 0))] [(.int (1 : Int32))])) _
      refine XS.istore X288.here hx rfl (hb hby at_559) rfl (l' := #[.val (.int p1), .val (.int p2), .val (.int p3), .val (.int p4), .val (.int p5), .val (.int s0), .val (.int s1), .val (.int s2), .val (.int (3 : Int32)), .val (.int b0), .val (.int b1), .val (.int b2), .val (.int bp), .val (.int pr), .val (.ref b15), .val (.int fc), .val (.int (1 : Int32)), .val (.int (re3.getD (0 : Int32).toNatClampNeg 0)), .val (.int (re3.getD (1 : Int32).toNatClampNeg 0)), .val (.int (re3.getD (2 : Int32).toNatClampNeg 0))]) rfl ?_
      show Steps p.tables e below (T288.setTop (mkF m 561 #[.val (.int p1), .val (.int p2), .val (.int p3), .val (.int p4), .val (.int p5), .val (.int s0), .val (.int s1), .val (.int s2), .val (.int (3 : Int32)), .val (.int b0), .val (.int b1), .val (.int b2), .val (.int bp), .val (.int pr), .val (.ref b15), .val (.int fc), .val (.int (1 : Int32)), .val (.int (re3.getD (0 : Int32).toNatClampNeg 0)), .val (.int (re3.getD (1 : Int32).toNatClampNeg 0)), .val (.int (re3.getD (2 : Int32).toNatClampNeg 0))] [])) _
      refine XS.iload X288.here hx rfl (hb hby at_561) rfl ?_
      exact k)
    obtain ⟨fs, hr, hrun, hended, hW, hsame⟩ := X288.leave (v := some (.int (1 : Int32))) (fun h => by rw [Bd.returns] at h; cases h) (BodyLoose.notSynchronized Bd)
    refine ⟨_, _, k290 _ ?_, hrun, hended, _, _, rfl, ?_, ⟨_, rfl⟩, hW, hsame.mono (by decide) (by decide)⟩
    · show Steps p.tables e below (T288.setTop (mkF m 563 #[.val (.int p1), .val (.int p2), .val (.int p3), .val (.int p4), .val (.int p5), .val (.int s0), .val (.int s1), .val (.int s2), .val (.int (3 : Int32)), .val (.int b0), .val (.int b1), .val (.int b2), .val (.int bp), .val (.int pr), .val (.ref b15), .val (.int fc), .val (.int (1 : Int32)), .val (.int (re3.getD (0 : Int32).toNatClampNeg 0)), .val (.int (re3.getD (1 : Int32).toNatClampNeg 0)), .val (.int (re3.getD (2 : Int32).toNatClampNeg 0))] [(.int (1 : Int32))])) _
      exact retN X288 hx (t := .boolean) Bd.returns (by simp) (hb hby at_563) hr
    ·
      show Qlaw _ p1 p2 p3 p4 p5 h0 n0 _ T288.heap _
      rw [he51]
      exact ⟨rfl, N288⟩
set_option maxRecDepth 65536 in
set_option maxHeartbeats 40000000 in
theorem comes_1 {Post : Tables → Env → Array Value → State → Outcome → State → Prop} (hpost : ∀ tb e args s v u, (limb_1_1.after args s (.returned v) u = true ∧ limb_1_2.after args s (.returned v) u = true ∧ True) → FrameEnd s (.returned v) u (Jvm.fieldLocs frame_1_writes args s ++ Jvm.arrayLocs frame_1_arrays args s ++ Jvm.staticLocs frame_1_statics s) 32 192 → Post tb e args s (.returned v) u) :
    ArmFor flags0 classFile x code maxLocals ret World_1 tables_1 room_1 Calls_1 rest_1 Pre_1 Post := by
  intro l hfl _ _ p e ha hc hk s m args below hf hA hF happ hP
  obtain ⟨hcalls, hrest, hpre⟩ := hP
  obtain ⟨-, -, -, hnamed, -, -, -, hat⟩ := (Spec.applies_iff hf).mp happ
  obtain ⟨hg, hn⟩ := and_e (Cond.before_iff.mp (show (Jvm.Cond.and given_1 narrow_1).before args s = true from hpre))
  obtain ⟨g1, g2⟩ := and_e hg
  obtain ⟨g3, g4⟩ := and_e g2
  obtain ⟨g5, g6⟩ := and_e g4
  obtain ⟨g7, g8⟩ := and_e g6
  obtain ⟨g9, g10⟩ := and_e g8
  obtain ⟨w0, w1, w2, w3, w4, rfl⟩ : ∃ w0 w1 w2 w3 w4 : Value, args = #[w0, w1, w2, w3, w4] := by
    have hs : args.size = 5 := by simpa [Cond.value, given_1] using g1
    obtain ⟨L⟩ := args
    match L, hs with
    | [w0, w1, w2, w3, w4], _ => exact ⟨w0, w1, w2, w3, w4, rfl⟩
  have hw := fun d (hd : d ∈ tables_1) => atoms_spec (ws := Jvm.Cond.code x code maxLocals ret :: tables_1) hat d (List.mem_cons_of_mem _ hd)
  have hfit : Fit s := fun {y c} hc i hi => by
    obtain ⟨ha, rfl⟩ := Array.getElem?_eq_some_iff.mp hc
    have q := List.all_eq_true.mp ((Array.all_eq_true_iff_forall_mem.mp hF) _ (Array.getElem_mem ha)) i (List.mem_range.mpr hi)
    simpa [Array.getElem?_eq_getElem hi] using q
  obtain ⟨i0, ei0⟩ := is_v g3
  obtain rfl : w0 = (.int i0) := Option.some.inj ei0
  obtain ⟨i1, ei1⟩ := is_v g5
  obtain rfl : w1 = (.int i1) := Option.some.inj ei1
  obtain ⟨i2, ei2⟩ := is_v g7
  obtain rfl : w2 = (.int i2) := Option.some.inj ei2
  obtain ⟨i3, ei3⟩ := is_v g9
  obtain rfl : w3 = (.int i3) := Option.some.inj ei3
  obtain ⟨i4, ei4⟩ := is_v g10
  obtain rfl : w4 = (.int i4) := Option.some.inj ei4
  obtain ⟨n, o, h1, h2, h3, _, L, rfl, ⟨rfl, N⟩, hq⟩ := rm_law l s _ hw tables_1 i0 i1 i2 i3 i4  s.heap s.heap.size (Nat.le_refl _)  p e ha hc hk s m _ below hf ((Spec.applies_iff_loose hf).mp happ).1 ⟨rfl, State.Warmed39.refl s, rfl⟩ trivial
  refine ⟨n, _, h1, h2, h3, hpost _ _ _ _ _ _ ⟨Cond.after_iff.mpr rfl, Cond.after_iff.mpr (eq_i res_at (Term.int_eval (1)) rfl), trivial⟩ ⟨hq.1, hq.2.1, (hq.2.2.sift fun y hy => Or.inr (N y hy)).mono (by decide) (by decide)⟩⟩
theorem main_1_1 : Claimed_1_1 := comes_1 fun _ _ _ _ _ _ h hF => ⟨h.1, hF⟩
theorem main_1_2 : Claimed_1_2 := comes_1 fun _ _ _ _ _ _ h hF => ⟨h.2.1, hF⟩
end Jvm.Pilot.@@N@@
namespace Jvm.Pilot.@@N@@
open Jvm Jvm.ClassFile Sem Op Lib Jvm.Free Jvm.Stand Jvm.Pilot.@@N@@.Jvm.D
/-! MADE BY PROGRAM (witnessworld.py) out of the Statement's table words and the real class files: 9 classes; the members and pool entries that the words name. The judged class is class 1, her method 1. -/
namespace start1
open Jvm.ClassFile
def u (s : String) : CpInfo := .utf8 (stringToUtf16 s)
/-- a pool by its gaps: so many unusable entries, then the entry; so many at the end -/
def gap : Nat → List CpInfo → List CpInfo
  | 0, r => r
  | n + 1, r => .unusable :: gap n r
def poolList (es : List (Nat × CpInfo)) (last : Nat) : List CpInfo := es.foldr (fun e r => gap e.1 (e.2 :: r)) (gap last [])
def pool (es : List (Nat × CpInfo)) (last : Nat) : Array CpInfo := ⟨poolList es last⟩
def fileOf (pool : Array CpInfo) (this : Nat) (attrs : Array Attribute := #[]) (ms : Array MethodInfo := #[]) (fl : Nat := 33) (sup : Nat := 0) (ifs : Array Nat := #[]) (fds : Array FieldInfo := #[]) : ClassFile where
  minorVersion := 0
  majorVersion := 65
  constantPool := pool
  accessFlags := fl
  thisClass := this
  superClass := sup
  interfaces := ifs
  fields := fds
  methods := ms
  attributes := attrs
def plain (name : String) (sup : Option ClassId) : Class where
  name := name
  kind := .ordinary
  loader := none
  accessFlags := 33
  super := sup
  interfaces := #[]
  cf := none
  fields := #[]
  methods := #[]
  instanceTypes := #[]
  staticTypes := #[]
  resolved := #[]
  callSites := []
  init := .initialized
  statics := none
  mirror := none

def pool0 : Array CpInfo := pool [(5, u "<init>"), (0, u "()V"), (1, .class_ 10), (1, u "java/lang/Object")] 113

def k0c0 : Code := { maxStack := 0, maxLocals := 1, code := object_method_1_code, exceptionTable := #[], attributes := #[] }
def k0m0 : Method := { name := "<init>", desc := "()V", sig := { parameters := [], returnType := none }, accessFlags := 1, code := some k0c0 }
/-- java/lang/Object -/
def k0 : Class := { plain "java/lang/Object" none with
  accessFlags := 33
  interfaces := #[]
  cf := some (fileOf pool0 8 #[] #[{ accessFlags := 1, nameIndex := 5, descriptorIndex := 6, attributes := #[] }] 33 0 #[] #[])
  fields := #[]
  methods := #[k0m0]
  instanceTypes := #[]
  staticTypes := #[]
  resolved := Array.replicate 124 none
  statics := none }

def pool1 : Array CpInfo := pool [(2, .class_ 4), (1, u "java/lang/Object"), (0, u "<init>"), (0, u "()V"), (0, .integer 2147483647), (0, .class_ 9), (0, u "com/example/ariadne/ariadne/algo/SplitSearch"), (0, .methodref 8 11), (0, .nameAndType 5 12), (0, u "([I[I[I[I[ILcom/example/ariadne/ariadne/algo/Blocks;Lcom/example/ariadne/ariadne/algo/StepSets;[I)V"), (0, .methodref 8 14), (0, .nameAndType 15 6), (0, u "newRound"), (0, .methodref 8 17), (0, .nameAndType 18 19), (0, u "mark"), (0, u "(IZ)V"), (0, .methodref 8 21), (0, .nameAndType 22 23), (0, u "markedCount"), (0, u "()I"), (0, .methodref 8 25), (0, .nameAndType 26 27), (0, u "marked"), (0, u "(I)I"), (0, .methodref 29 30), (0, .class_ 31), (0, .nameAndType 32 33), (0, u "com/example/ariadne/ariadne/algo/SplitSearchMarkPinLaw"), (0, u "placeOk"), (0, u "(IIIIIIII)Z"), (0, .methodref 8 35), (0, .nameAndType 36 37), (0, u "isMarked"), (0, u "(I)Z"), (0, .methodref 29 39), (0, .nameAndType 40 41), (0, u "expectedMarked"), (0, u "(IIIII)Z"), (2, u "law")] 3

def k1m0 : Method := { name := "<init>", desc := "()V", sig := { parameters := [], returnType := none }, accessFlags := 1, code := none }
def k1c1 : Code := { maxStack := 10, maxLocals := 20, code := code, exceptionTable := #[], attributes := #[] }
def k1m1 : Method := { name := "law", desc := "(IIIII)Z", sig := { parameters := [.int, .int, .int, .int, .int], returnType := some .boolean }, accessFlags := 9, code := some k1c1 }
def k1c2 : Code := { maxStack := 2, maxLocals := 5, code := method_3_code, exceptionTable := #[], attributes := #[] }
def k1m2 : Method := { name := "expectedMarked", desc := "(IIIII)Z", sig := { parameters := [.int, .int, .int, .int, .int], returnType := some .boolean }, accessFlags := 10, code := some k1c2 }
def k1c3 : Code := { maxStack := 3, maxLocals := 10, code := method_4_code, exceptionTable := #[], attributes := #[] }
def k1m3 : Method := { name := "placeOk", desc := "(IIIIIIII)Z", sig := { parameters := [.int, .int, .int, .int, .int, .int, .int, .int], returnType := some .boolean }, accessFlags := 10, code := some k1c3 }
/-- com/example/ariadne/ariadne/algo/SplitSearchMarkPinLaw -/
def k1 : Class := { plain "com/example/ariadne/ariadne/algo/SplitSearchMarkPinLaw" (some 0) with
  accessFlags := 49
  interfaces := #[]
  cf := some (fileOf pool1 29 #[] #[{ accessFlags := 1, nameIndex := 5, descriptorIndex := 6, attributes := #[] }, { accessFlags := 9, nameIndex := 44, descriptorIndex := 41, attributes := #[] }, { accessFlags := 10, nameIndex := 40, descriptorIndex := 41, attributes := #[] }, { accessFlags := 10, nameIndex := 32, descriptorIndex := 33, attributes := #[] }] 49 2 #[] #[])
  fields := #[]
  methods := #[k1m0, k1m1, k1m2, k1m3]
  instanceTypes := #[]
  staticTypes := #[]
  resolved := Array.replicate 48 none
  statics := none }

def pool2 : Array CpInfo := pool [(3, .methodref 4 5), (0, .class_ 6), (0, .nameAndType 7 8), (0, u "java/lang/Object"), (0, u "<init>"), (0, u "()V"), (0, .fieldref 10 11), (0, .class_ 12), (0, .nameAndType 13 14), (0, u "com/example/ariadne/ariadne/algo/SplitSearch"), (0, u "sources"), (0, u "[I"), (0, .fieldref 10 16), (0, .nameAndType 17 14), (0, u "outStart"), (0, .fieldref 10 19), (0, .nameAndType 20 14), (0, u "incoming"), (0, .fieldref 10 22), (0, .nameAndType 23 14), (0, u "inStart"), (0, .fieldref 10 25), (0, .nameAndType 26 14), (0, u "internalInEnd"), (0, .fieldref 10 28), (0, .nameAndType 29 30), (0, u "blocks"), (0, u "Lcom/example/ariadne/ariadne/algo/Blocks;"), (0, .fieldref 10 32), (0, .nameAndType 33 34), (0, u "sets"), (0, u "Lcom/example/ariadne/ariadne/algo/StepSets;"), (0, .fieldref 10 36), (0, .nameAndType 37 14), (0, u "inertCount"), (0, .fieldref 10 39), (0, .nameAndType 40 14), (0, u "reaching"), (0, .fieldref 10 42), (0, .nameAndType 43 14), (0, u "rest"), (0, .fieldref 10 45), (0, .nameAndType 46 14), (0, u "unknownInert"), (0, .fieldref 10 48), (0, .nameAndType 49 14), (0, u "roundMark"), (0, .fieldref 10 51), (0, .nameAndType 52 53), (0, u "round"), (0, u "I"), (0, .fieldref 10 55), (0, .nameAndType 56 53), (0, u "reachCount"), (0, .fieldref 10 58), (0, .nameAndType 59 53), (0, u "firstMarked"), (0, .fieldref 10 61), (0, .nameAndType 62 53), (0, u "restCount"), (2, u "newRound"), (3, u "(I)I"), (2, u "searchedBlock"), (2, u "splitterSet"), (2, u "reachNext"), (2, u "reachStep"), (7, u "seedNext"), (2, u "restNext"), (2, u "restStep"), (5, u "bottomNext"), (2, u "bottomSeedsLeft"), (3, u "()I"), (5, u "reachingFound"), (0, u "Z"), (22, u "(I)Z"), (7, u "NONE"), (2, u "([I[I[I[I[ILcom/example/ariadne/ariadne/algo/Blocks;Lcom/example/ariadne/ariadne/algo/StepSets;[I)V"), (2, u "isMarked"), (1, u "mark"), (0, u "(IZ)V"), (0, u "markedCount"), (0, u "marked")] 7

def k2c0 : Code := { maxStack := 2, maxLocals := 10, code := prog_51_method_1_code, exceptionTable := #[], attributes := #[] }
def k2m0 : Method := { name := "<init>", desc := "([I[I[I[I[ILcom/example/ariadne/ariadne/algo/Blocks;Lcom/example/ariadne/ariadne/algo/StepSets;[I)V", sig := { parameters := [(.array .int), (.array .int), (.array .int), (.array .int), (.array .int), (.object "com/example/ariadne/ariadne/algo/Blocks"), (.object "com/example/ariadne/ariadne/algo/StepSets"), (.array .int)], returnType := none }, accessFlags := 0, code := some k2c0 }
def k2c1 : Code := { maxStack := 3, maxLocals := 1, code := prog_51_method_2_code, exceptionTable := #[], attributes := #[] }
def k2m1 : Method := { name := "newRound", desc := "()V", sig := { parameters := [], returnType := none }, accessFlags := 0, code := some k2c1 }
def k2c2 : Code := { maxStack := 2, maxLocals := 2, code := prog_51_method_3_code, exceptionTable := #[], attributes := #[] }
def k2m2 : Method := { name := "isMarked", desc := "(I)Z", sig := { parameters := [.int], returnType := some .boolean }, accessFlags := 0, code := some k2c2 }
def k2c3 : Code := { maxStack := 5, maxLocals := 3, code := prog_51_method_4_code, exceptionTable := #[], attributes := #[] }
def k2m3 : Method := { name := "mark", desc := "(IZ)V", sig := { parameters := [.int, .boolean], returnType := none }, accessFlags := 0, code := some k2c3 }
def k2c4 : Code := { maxStack := 1, maxLocals := 1, code := prog_51_method_5_code, exceptionTable := #[], attributes := #[] }
def k2m4 : Method := { name := "markedCount", desc := "()I", sig := { parameters := [], returnType := some .int }, accessFlags := 0, code := some k2c4 }
def k2c5 : Code := { maxStack := 2, maxLocals := 2, code := prog_51_method_6_code, exceptionTable := #[], attributes := #[] }
def k2m5 : Method := { name := "marked", desc := "(I)I", sig := { parameters := [.int], returnType := some .int }, accessFlags := 0, code := some k2c5 }
/-- com/example/ariadne/ariadne/algo/SplitSearch -/
def k2 : Class := { plain "com/example/ariadne/ariadne/algo/SplitSearch" (some 0) with
  accessFlags := 48
  interfaces := #[]
  cf := some (fileOf pool2 10 #[] #[{ accessFlags := 0, nameIndex := 7, descriptorIndex := 149, attributes := #[] }, { accessFlags := 0, nameIndex := 65, descriptorIndex := 8, attributes := #[] }, { accessFlags := 0, nameIndex := 152, descriptorIndex := 138, attributes := #[] }, { accessFlags := 0, nameIndex := 154, descriptorIndex := 155, attributes := #[] }, { accessFlags := 0, nameIndex := 156, descriptorIndex := 108, attributes := #[] }, { accessFlags := 0, nameIndex := 157, descriptorIndex := 69, attributes := #[] }] 48 4 #[] #[{ accessFlags := 26, nameIndex := 146, descriptorIndex := 53, attributes := #[] }, { accessFlags := 18, nameIndex := 13, descriptorIndex := 14, attributes := #[] }, { accessFlags := 18, nameIndex := 17, descriptorIndex := 14, attributes := #[] }, { accessFlags := 18, nameIndex := 20, descriptorIndex := 14, attributes := #[] }, { accessFlags := 18, nameIndex := 23, descriptorIndex := 14, attributes := #[] }, { accessFlags := 18, nameIndex := 26, descriptorIndex := 14, attributes := #[] }, { accessFlags := 18, nameIndex := 29, descriptorIndex := 30, attributes := #[] }, { accessFlags := 18, nameIndex := 33, descriptorIndex := 34, attributes := #[] }, { accessFlags := 18, nameIndex := 37, descriptorIndex := 14, attributes := #[] }, { accessFlags := 18, nameIndex := 40, descriptorIndex := 14, attributes := #[] }, { accessFlags := 18, nameIndex := 43, descriptorIndex := 14, attributes := #[] }, { accessFlags := 18, nameIndex := 46, descriptorIndex := 14, attributes := #[] }, { accessFlags := 18, nameIndex := 49, descriptorIndex := 14, attributes := #[] }, { accessFlags := 2, nameIndex := 52, descriptorIndex := 53, attributes := #[] }, { accessFlags := 2, nameIndex := 59, descriptorIndex := 53, attributes := #[] }, { accessFlags := 2, nameIndex := 72, descriptorIndex := 53, attributes := #[] }, { accessFlags := 2, nameIndex := 75, descriptorIndex := 53, attributes := #[] }, { accessFlags := 2, nameIndex := 56, descriptorIndex := 53, attributes := #[] }, { accessFlags := 2, nameIndex := 78, descriptorIndex := 53, attributes := #[] }, { accessFlags := 2, nameIndex := 81, descriptorIndex := 53, attributes := #[] }, { accessFlags := 2, nameIndex := 89, descriptorIndex := 53, attributes := #[] }, { accessFlags := 2, nameIndex := 62, descriptorIndex := 53, attributes := #[] }, { accessFlags := 2, nameIndex := 92, descriptorIndex := 53, attributes := #[] }, { accessFlags := 2, nameIndex := 95, descriptorIndex := 53, attributes := #[] }, { accessFlags := 2, nameIndex := 101, descriptorIndex := 53, attributes := #[] }, { accessFlags := 2, nameIndex := 104, descriptorIndex := 53, attributes := #[] }, { accessFlags := 2, nameIndex := 114, descriptorIndex := 115, attributes := #[] }])
  fields := #[{ name := "NONE", type := .int, accessFlags := 26, slot := 0, constantValue := 0 }, { name := "sources", type := (.array .int), accessFlags := 18, slot := 0, constantValue := 0 }, { name := "outStart", type := (.array .int), accessFlags := 18, slot := 1, constantValue := 0 }, { name := "incoming", type := (.array .int), accessFlags := 18, slot := 2, constantValue := 0 }, { name := "inStart", type := (.array .int), accessFlags := 18, slot := 3, constantValue := 0 }, { name := "internalInEnd", type := (.array .int), accessFlags := 18, slot := 4, constantValue := 0 }, { name := "blocks", type := (.object "com/example/ariadne/ariadne/algo/Blocks"), accessFlags := 18, slot := 5, constantValue := 0 }, { name := "sets", type := (.object "com/example/ariadne/ariadne/algo/StepSets"), accessFlags := 18, slot := 6, constantValue := 0 }, { name := "inertCount", type := (.array .int), accessFlags := 18, slot := 7, constantValue := 0 }, { name := "reaching", type := (.array .int), accessFlags := 18, slot := 8, constantValue := 0 }, { name := "rest", type := (.array .int), accessFlags := 18, slot := 9, constantValue := 0 }, { name := "unknownInert", type := (.array .int), accessFlags := 18, slot := 10, constantValue := 0 }, { name := "roundMark", type := (.array .int), accessFlags := 18, slot := 11, constantValue := 0 }, { name := "round", type := .int, accessFlags := 2, slot := 12, constantValue := 0 }, { name := "firstMarked", type := .int, accessFlags := 2, slot := 13, constantValue := 0 }, { name := "searchedBlock", type := .int, accessFlags := 2, slot := 14, constantValue := 0 }, { name := "splitterSet", type := .int, accessFlags := 2, slot := 15, constantValue := 0 }, { name := "reachCount", type := .int, accessFlags := 2, slot := 16, constantValue := 0 }, { name := "reachNext", type := .int, accessFlags := 2, slot := 17, constantValue := 0 }, { name := "reachStep", type := .int, accessFlags := 2, slot := 18, constantValue := 0 }, { name := "seedNext", type := .int, accessFlags := 2, slot := 19, constantValue := 0 }, { name := "restCount", type := .int, accessFlags := 2, slot := 20, constantValue := 0 }, { name := "restNext", type := .int, accessFlags := 2, slot := 21, constantValue := 0 }, { name := "restStep", type := .int, accessFlags := 2, slot := 22, constantValue := 0 }, { name := "bottomNext", type := .int, accessFlags := 2, slot := 23, constantValue := 0 }, { name := "bottomSeedsLeft", type := .int, accessFlags := 2, slot := 24, constantValue := 0 }, { name := "reachingFound", type := .boolean, accessFlags := 2, slot := 25, constantValue := 0 }]
  methods := #[k2m0, k2m1, k2m2, k2m3, k2m4, k2m5]
  instanceTypes := #[(.array .int), (.array .int), (.array .int), (.array .int), (.array .int), (.object "com/example/ariadne/ariadne/algo/Blocks"), (.object "com/example/ariadne/ariadne/algo/StepSets"), (.array .int), (.array .int), (.array .int), (.array .int), (.array .int), .int, .int, .int, .int, .int, .int, .int, .int, .int, .int, .int, .int, .int, .boolean]
  staticTypes := #[.int]
  resolved := Array.replicate 165 none
  statics := none }

def pool3 : Array CpInfo := pool [(1, u "java/lang/Cloneable"), (0, .class_ 1), (0, u "java/lang/Object"), (0, .class_ 3)] 3

/-- java/lang/Cloneable -/
def k3 : Class := { plain "java/lang/Cloneable" (some 0) with
  accessFlags := 1537
  interfaces := #[]
  cf := some (fileOf pool3 2 #[] #[] 1537 4 #[] #[])
  fields := #[]
  methods := #[]
  instanceTypes := #[]
  staticTypes := #[]
  resolved := Array.replicate 8 none
  statics := none }

def pool4 : Array CpInfo := pool [(1, u "java/io/Serializable"), (0, .class_ 1), (0, u "java/lang/Object"), (0, .class_ 3)] 3

/-- java/io/Serializable -/
def k4 : Class := { plain "java/io/Serializable" (some 0) with
  accessFlags := 1537
  interfaces := #[]
  cf := some (fileOf pool4 2 #[] #[] 1537 4 #[] #[])
  fields := #[]
  methods := #[]
  instanceTypes := #[]
  staticTypes := #[]
  resolved := Array.replicate 8 none
  statics := none }

/-- the primitive byte -/
def k5 : Class := { plain "byte" none with kind := .primitive 'B', accessFlags := 0x411 }
/-- [B -/
def k6 : Class := { plain "[B" (some 0) with kind := .array 5 .byte, interfaces := #[3, 4], accessFlags := 1041 }

/-- the primitive int -/
def k7 : Class := { plain "int" none with kind := .primitive 'I', accessFlags := 0x411 }
/-- [I -/
def k8 : Class := { plain "[I" (some 0) with kind := .array 7 .int, interfaces := #[3, 4], accessFlags := 1041 }

def heap : Heap := #[]
def classes : Array Class := #[k0, k1, k2, k3, k4, k5, k6, k7, k8]
def interned : List (Array UInt16 × Addr) := []
def slotsUsed : Nat := 0
def theMethod : MethodId := ⟨1, 1⟩
def args0 : Array Value := #[.int 1, .int 2, .int 3, .int 4, .int 5]
def aboutOver (below : List Frame) : State where
  vm := { classes := classes, interned := interned.toArray }
  heap := heap
  slotsUsed := slotsUsed
  threads := #[{ frames := .invoking theMethod args0 :: below }]
def below0 : List Frame := [.native { method := ⟨0, 0⟩, args := #[] }]
def about1 : State := aboutOver below0
def p0 : Program := .bare "" "" ""
def e0 : Env := launch0.env 0 0 0
theorem w_frames : about1.frames = Frame.invoking theMethod args0 :: below0 := rfl
set_option maxRecDepth 65536 in
theorem w_args : argsFit about1.vm theMethod args0 = true := by decide +kernel
set_option maxRecDepth 65536 in
theorem w_heap : heapFits about1 = true := by decide +kernel
set_option maxRecDepth 65536 in
theorem w_runnable : about1.curStatus? = some .runnable := by decide +kernel
set_option maxRecDepth 65536 in
theorem w_alone : about1.alone = true := by decide +kernel
set_option maxRecDepth 65536 in
theorem w_named : about1.methodNamed? x = some theMethod := by decide +kernel
set_option maxRecDepth 65536 in
theorem w_hears : about1.hears theMethod below0 = true := by decide +kernel
set_option maxRecDepth 65536 in
theorem w_ripe : about1.ripe theMethod args0 below0 = true := by decide +kernel
theorem w_running : about1.status = .running := rfl
set_option maxRecDepth 65536 in
theorem w_room : about1.hasRoom e0.platform room_1 = true :=
  launch0.hasRoom_least _ room_1 (by decide +kernel) (by decide +kernel) (by decide +kernel) (by decide +kernel) (by decide +kernel) (by decide +kernel)
theorem allAtoms_all (ts : List Jvm.Cond) (a : Array Jvm.Value) (st : Jvm.State) : (allAtoms ts).before a st = ts.all (fun c => c.before a st) := by
  induction ts with
  | nil => rfl
  | cons c t ih =>
    show (Jvm.Cond.and c (allAtoms t)).before a st = _
    rw [Jvm.Cond.before_and, ih, List.all_cons]
def words1 : List Jvm.Cond := Jvm.Cond.code x code maxLocals ret :: tables_1
/-- a 'code' word, met by the world's own term for the bytes: nothing is compared byte by byte -/
theorem code_word {y : MethodName} {bytes : ByteArray} {mx : Nat} {rt : Option FieldType} {a : Array Value} {s : State} {m : MethodId} {meth : Method} {c : Code} (h1 : s.methodNamed? y = some m) (h2 : s.vm.method? m = some meth) (h3 : meth.code = some c) (h4 : c.code = bytes)
    (h5 : (c.maxLocals == mx && c.exceptionTable.isEmpty && decide (c.maxStack ≤ mostOperands) && decide (meth.sig.returnType = rt) && !meth.locks && decide (parseMethodDescriptor y.desc = some meth.sig)) = true) : (Jvm.Cond.code y bytes mx rt).before a s = true := by
  simp only [Bool.and_eq_true, beq_iff_eq, Bool.not_eq_true', decide_eq_true_eq] at h5
  obtain ⟨⟨⟨⟨⟨g1, g2⟩, g3⟩, g4⟩, g5⟩, g6⟩ := h5
  simp [Cond.before, Cond.holds, Cond.value, h1, h2, h3, h4, g1, g2, g3, g4, g5, g6]
def isCode : Jvm.Cond → Bool
  | .code _ _ _ _ => true
  | _ => false
theorem all_split {L : List Jvm.Cond} {P : Jvm.Cond → Bool} (h1 : L.all (fun c => isCode c || P c) = true) (h2 : ∀ c ∈ L.filter isCode, P c = true) : L.all P = true := by
  refine List.all_eq_true.mpr fun c hc => ?_
  have h := List.all_eq_true.mp h1 c hc
  rcases Bool.eq_false_or_eq_true (isCode c) with hi | hi
  · exact h2 c (List.mem_filter.mpr ⟨hc, hi⟩)
  · simpa [hi] using h
set_option maxRecDepth 65536 in
theorem w_c0 : (Jvm.Cond.code x code maxLocals ret).before args0 about1 = true := code_word (m := ⟨1, 1⟩) (meth := k1m1) (c := k1c1) (by decide +kernel) rfl rfl rfl (by decide +kernel)
set_option maxRecDepth 65536 in
theorem w_c1 : (Jvm.Cond.code ({ cls := "com/example/ariadne/ariadne/algo/SplitSearch", name := "<init>", desc := "([I[I[I[I[ILcom/example/ariadne/ariadne/algo/Blocks;Lcom/example/ariadne/ariadne/algo/StepSets;[I)V" } : Jvm.MethodName) prog_51_method_1_code (10 : Nat) (Option.none : Option Jvm.ClassFile.FieldType)).before args0 about1 = true := code_word (m := ⟨2, 0⟩) (meth := k2m0) (c := k2c0) (by decide +kernel) rfl rfl rfl (by decide +kernel)
set_option maxRecDepth 65536 in
theorem w_c2 : (Jvm.Cond.code ({ cls := "java/lang/Object", name := "<init>", desc := "()V" } : Jvm.MethodName) object_method_1_code (1 : Nat) (Option.none : Option Jvm.ClassFile.FieldType)).before args0 about1 = true := code_word (m := ⟨0, 0⟩) (meth := k0m0) (c := k0c0) (by decide +kernel) rfl rfl rfl (by decide +kernel)
set_option maxRecDepth 65536 in
theorem w_c3 : (Jvm.Cond.code ({ cls := "com/example/ariadne/ariadne/algo/SplitSearch", name := "newRound", desc := "()V" } : Jvm.MethodName) prog_51_method_2_code (1 : Nat) (Option.none : Option Jvm.ClassFile.FieldType)).before args0 about1 = true := code_word (m := ⟨2, 1⟩) (meth := k2m1) (c := k2c1) (by decide +kernel) rfl rfl rfl (by decide +kernel)
set_option maxRecDepth 65536 in
theorem w_c4 : (Jvm.Cond.code ({ cls := "com/example/ariadne/ariadne/algo/SplitSearch", name := "mark", desc := "(IZ)V" } : Jvm.MethodName) prog_51_method_4_code (3 : Nat) (Option.none : Option Jvm.ClassFile.FieldType)).before args0 about1 = true := code_word (m := ⟨2, 3⟩) (meth := k2m3) (c := k2c3) (by decide +kernel) rfl rfl rfl (by decide +kernel)
set_option maxRecDepth 65536 in
theorem w_c5 : (Jvm.Cond.code ({ cls := "com/example/ariadne/ariadne/algo/SplitSearch", name := "markedCount", desc := "()I" } : Jvm.MethodName) prog_51_method_5_code (1 : Nat) (Option.some Jvm.ClassFile.FieldType.int)).before args0 about1 = true := code_word (m := ⟨2, 4⟩) (meth := k2m4) (c := k2c4) (by decide +kernel) rfl rfl rfl (by decide +kernel)
set_option maxRecDepth 65536 in
theorem w_c6 : (Jvm.Cond.code ({ cls := "com/example/ariadne/ariadne/algo/SplitSearch", name := "marked", desc := "(I)I" } : Jvm.MethodName) prog_51_method_6_code (2 : Nat) (Option.some Jvm.ClassFile.FieldType.int)).before args0 about1 = true := code_word (m := ⟨2, 5⟩) (meth := k2m5) (c := k2c5) (by decide +kernel) rfl rfl rfl (by decide +kernel)
set_option maxRecDepth 65536 in
theorem w_c7 : (Jvm.Cond.code ({ cls := "com/example/ariadne/ariadne/algo/SplitSearchMarkPinLaw", name := "placeOk", desc := "(IIIIIIII)Z" } : Jvm.MethodName) method_4_code (10 : Nat) (Option.some Jvm.ClassFile.FieldType.boolean)).before args0 about1 = true := code_word (m := ⟨1, 3⟩) (meth := k1m3) (c := k1c3) (by decide +kernel) rfl rfl rfl (by decide +kernel)
set_option maxRecDepth 65536 in
theorem w_c8 : (Jvm.Cond.code ({ cls := "com/example/ariadne/ariadne/algo/SplitSearch", name := "isMarked", desc := "(I)Z" } : Jvm.MethodName) prog_51_method_3_code (2 : Nat) (Option.some Jvm.ClassFile.FieldType.boolean)).before args0 about1 = true := code_word (m := ⟨2, 2⟩) (meth := k2m2) (c := k2c2) (by decide +kernel) rfl rfl rfl (by decide +kernel)
set_option maxRecDepth 65536 in
theorem w_c9 : (Jvm.Cond.code ({ cls := "com/example/ariadne/ariadne/algo/SplitSearchMarkPinLaw", name := "expectedMarked", desc := "(IIIII)Z" } : Jvm.MethodName) method_3_code (5 : Nat) (Option.some Jvm.ClassFile.FieldType.boolean)).before args0 about1 = true := code_word (m := ⟨1, 2⟩) (meth := k1m2) (c := k1c2) (by decide +kernel) rfl rfl rfl (by decide +kernel)
def codes1 : List Jvm.Cond := [Jvm.Cond.code x code maxLocals ret, Jvm.Cond.code ({ cls := "com/example/ariadne/ariadne/algo/SplitSearch", name := "<init>", desc := "([I[I[I[I[ILcom/example/ariadne/ariadne/algo/Blocks;Lcom/example/ariadne/ariadne/algo/StepSets;[I)V" } : Jvm.MethodName) prog_51_method_1_code (10 : Nat) (Option.none : Option Jvm.ClassFile.FieldType), Jvm.Cond.code ({ cls := "java/lang/Object", name := "<init>", desc := "()V" } : Jvm.MethodName) object_method_1_code (1 : Nat) (Option.none : Option Jvm.ClassFile.FieldType), Jvm.Cond.code ({ cls := "com/example/ariadne/ariadne/algo/SplitSearch", name := "newRound", desc := "()V" } : Jvm.MethodName) prog_51_method_2_code (1 : Nat) (Option.none : Option Jvm.ClassFile.FieldType), Jvm.Cond.code ({ cls := "com/example/ariadne/ariadne/algo/SplitSearch", name := "mark", desc := "(IZ)V" } : Jvm.MethodName) prog_51_method_4_code (3 : Nat) (Option.none : Option Jvm.ClassFile.FieldType), Jvm.Cond.code ({ cls := "com/example/ariadne/ariadne/algo/SplitSearch", name := "markedCount", desc := "()I" } : Jvm.MethodName) prog_51_method_5_code (1 : Nat) (Option.some Jvm.ClassFile.FieldType.int), Jvm.Cond.code ({ cls := "com/example/ariadne/ariadne/algo/SplitSearch", name := "marked", desc := "(I)I" } : Jvm.MethodName) prog_51_method_6_code (2 : Nat) (Option.some Jvm.ClassFile.FieldType.int), Jvm.Cond.code ({ cls := "com/example/ariadne/ariadne/algo/SplitSearchMarkPinLaw", name := "placeOk", desc := "(IIIIIIII)Z" } : Jvm.MethodName) method_4_code (10 : Nat) (Option.some Jvm.ClassFile.FieldType.boolean), Jvm.Cond.code ({ cls := "com/example/ariadne/ariadne/algo/SplitSearch", name := "isMarked", desc := "(I)Z" } : Jvm.MethodName) prog_51_method_3_code (2 : Nat) (Option.some Jvm.ClassFile.FieldType.boolean), Jvm.Cond.code ({ cls := "com/example/ariadne/ariadne/algo/SplitSearchMarkPinLaw", name := "expectedMarked", desc := "(IIIII)Z" } : Jvm.MethodName) method_3_code (5 : Nat) (Option.some Jvm.ClassFile.FieldType.boolean)]
set_option maxRecDepth 65536 in
theorem codes_eq : words1.filter isCode = codes1 := rfl
theorem w_codes : ∀ c ∈ words1.filter isCode, c.before args0 about1 = true := by
  rw [codes_eq]
  intro c hc
  simp only [codes1, List.mem_cons, List.not_mem_nil, or_false] at hc
  rcases hc with rfl | rfl | rfl | rfl | rfl | rfl | rfl | rfl | rfl | rfl
  · exact w_c0
  · exact w_c1
  · exact w_c2
  · exact w_c3
  · exact w_c4
  · exact w_c5
  · exact w_c6
  · exact w_c7
  · exact w_c8
  · exact w_c9
set_option maxRecDepth 65536 in
theorem w_t1 : (words1.take 24).all (fun c => isCode c || c.before args0 about1) = true := by decide +kernel
set_option maxRecDepth 65536 in
theorem w_t2 : ((words1.drop 24).take 24).all (fun c => isCode c || c.before args0 about1) = true := by decide +kernel
set_option maxRecDepth 65536 in
theorem w_t3 : (((words1.drop 24).drop 24).take 24).all (fun c => isCode c || c.before args0 about1) = true := by decide +kernel
set_option maxRecDepth 65536 in
theorem w_t4 : (((words1.drop 24).drop 24).drop 24).all (fun c => isCode c || c.before args0 about1) = true := by decide +kernel
theorem w_tables : (allAtoms (Jvm.Cond.code x code maxLocals ret :: tables_1)).before args0 about1 = true := by
  rw [allAtoms_all]
  show words1.all (fun c => c.before args0 about1) = true
  refine all_split ?_ w_codes
  rw [← List.take_append_drop 24 words1, List.all_append, w_t1, ← List.take_append_drop 24 (words1.drop 24), List.all_append, w_t2, ← List.take_append_drop 24 ((words1.drop 24).drop 24), List.all_append, w_t3, w_t4]
  rfl
set_option maxRecDepth 65536 in
theorem w_case : (Jvm.Cond.and given_1 narrow_1).before args0 about1 = true := by decide +kernel
theorem w_applies : (headSpec (Jvm.Cond.code x code maxLocals ret :: tables_1) room_1).applies x e0.platform about1 = true :=
  (Spec.applies_iff w_frames).mpr ⟨w_running, w_runnable, w_alone, w_named, w_hears, w_ripe, w_room, w_tables⟩
theorem atStart : AtStart classFile x code maxLocals ret World_1 tables_1 room_1 Calls_1 rest_1 Pre_1 launch0 p0 e0 about1 theMethod args0 below0 :=
  ⟨lists_1, trivial, launch0.admits_env _ _ _, launch0.least_env, fairChoices_fair.cas, fairChoices_fair.clock, w_frames, w_args, w_heap, w_applies, trivial, trivial, w_case⟩
end start1
theorem witness_1 : WitnessClaimed_1 := ⟨start1.p0, start1.e0, start1.about1, start1.theMethod, start1.args0, start1.below0, start1.atStart⟩
end Jvm.Pilot.@@N@@
