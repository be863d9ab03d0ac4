import JvmDerived
import JvmDerived.Pilot.@@N@@Statement
import JvmDerived.Pilot.@@N@@Code
set_option linter.unusedVariables false
set_option linter.unusedSimpArgs false
namespace Jvm.Pilot.@@N@@
open Jvm Jvm.ClassFile Sem Op Lib Jvm.Free Jvm.Stand Jvm.LawKit Jvm.RoadKit Bundle Jvm.Pilot.@@N@@.Jvm.D
abbrev own_CO : String := "com/example/valbonne/valbonne/codec/AttributeCodings$Coding"
abbrev own_AC : String := "com/example/valbonne/valbonne/codec/AttributeCodings"
abbrev own_SI : String := "com/example/valbonne/valbonne/codec/StreamInput"
abbrev own_NM : String := "com/example/valbonne/valbonne/codec/Name"
section Own
variable {p : Program} {l : Launch} {e : Env} {R : Room} {s : State} {m : MethodId} {args : Array Value} {below : List Frame} {meth : Method} {c : Code} {T T' : State} {locs : List Loc} {cells slots : Nat} {QQ : Option Value → Heap → List Loc → Prop} {kc ks : Nat} {f f' : JFrame}
/-- from here the run comes to the method's return, with what QQ says -/
def own_Goes (p : Program) (e : Env) (below : List Frame) (s : State) (QQ : Option Value → Heap → List Loc → Prop) (kc ks : Nat) (T : State) (f : JFrame) : Prop :=
  ∃ s₂ o, Steps p.tables e below (T.setTop f) s₂ ∧ s₂.status = .running ∧ Ended s₂ below o ∧ ∃ v L, o = .returned v ∧ QQ v s₂.heap L ∧ FrameEnd s o s₂ L kc ks
theorem own_step (st : ∀ target, Steps p.tables e below (T'.setTop f') target → Steps p.tables e below (T.setTop f) target) (h : own_Goes p e below s QQ kc ks T' f') : own_Goes p e below s QQ kc ks T f := by
  obtain ⟨s₂, o, h1, r⟩ := h
  exact ⟨s₂, o, st _ h1, r⟩
theorem own_jump (st : Steps p.tables e below (T.setTop f) (T'.setTop f')) (h : own_Goes p e below s QQ kc ks T' f') : own_Goes p e below s QQ kc ks T f := by
  obtain ⟨s₂, o, h1, r⟩ := h
  exact ⟨s₂, o, st.trans h1, r⟩
theorem own_out {v : Option Value} (X : Stand p l e R s m args below meth c T locs cells slots) (hlk : meth.locks = false) (hv : meth.sig.returnType = none → v = none)
    (st : ∀ fs, (∀ (f : JFrame) (acts : List Action), f.method = m → f.locked = none → f.entered = [] → (doReturn e (T.setTop f) acts v).1 = T.setFrames fs) → Steps p.tables e below (T.setTop f) (T.setFrames fs)) (hc : cells ≤ kc) (hs : slots ≤ ks) (hq : QQ v T.heap locs) : own_Goes p e below s QQ kc ks T f := by
  obtain ⟨fs, hr, hrun, hended, hW, hsame⟩ := X.leave (v := v) hv hlk
  exact ⟨_, _, st fs hr, hrun, hended, v, locs, rfl, hq, ⟨_, rfl⟩, hW, hsame.mono hc hs⟩
theorem own_staKeep {Z : State} {h h' : Heap} {C n d : String} {v : Value} {ws : List Addr} (F : Sta Z h C n d v) (K : Keep h h' ws) (q : ∀ x ∈ ws, ∃ cell : Cell, h[x]? = some cell ∧ cell.vm.isStatics = false) : Sta Z h' C n d v := by
  obtain ⟨cf, i, k, f, st, cell, h1, h2, h3, h4, h5, h6, h7⟩ := F
  refine ⟨cf, i, k, f, st, cell, h1, h2, h3, h4, K.2.1 st cell h5 (fun z => ?_), h6, h7⟩
  obtain ⟨c', g1, g2⟩ := q st z
  rw [h5] at g1
  cases g1
  rw [h6] at g2
  cases g2
theorem own_exaNS {Z : State} {h : Heap} {a : Addr} {C : String} (F : Exa Z h a C) : ∃ cell : Cell, h[a]? = some cell ∧ cell.vm.isStatics = false := by
  obtain ⟨cell, k, h1, -, -, h4, -⟩ := F
  exact ⟨cell, h1, h4⟩
end Own
section Warm
variable {p : Program} {l : Launch} {e : Env} {R : Room} {s : State} {m : MethodId} {args : Array Value} {below : List Frame} {meth : Method} {c : Code} {T : State} {locs : List Loc} {cells slots : Nat} {Z : State} {a0 : Array Value} {h : Heap}
theorem own_ready (X : Stand p l e R s m args below meth c T locs cells slots) (hZ : Z.Warmed39 s.vm) {own O n d : String} {index : Nat} (hown : s.vm.findClass own = some m.cls) (w : (Jvm.Cond.fieldRef own index O n d).before a0 Z = true)
    {cf i : Nat} {k : Class} {f : Field} (hf : Z.fieldFound? O n d = some (cf, k, i, f)) : T.vm.fieldReady m.cls index cf f := by
  have hW : Z.Warmed39 T.vm := wtrans hZ X.warmed
  have w' := Cond.fieldRef_warmed39 hW w
  obtain ⟨c', k', i', f', q1, q2⟩ := Cond.fieldRef_spec (s := Z.setVm T.vm) (cur := m.cls) (by show T.vm.findClass own = some m.cls; rw [X.warmed.alike.findClass]; exact hown) w'
  obtain ⟨k2, hi, -⟩ := State.fieldFound?_setVm (s := Z) hW.alike hf
  cases hi.symm.trans q1
  exact q2
theorem own_getR (X : Stand p l e R s m args below meth c T locs cells slots) (hx : p.tables.exec = Jvm.exec) (hZ : Z.Warmed39 s.vm) {own O n d : String} {index : Nat} (hown : s.vm.findClass own = some m.cls) (w : (Jvm.Cond.fieldRef own index O n d).before a0 Z = true)
    (eT : T.heap = h) {a : Addr} {v : Value} (F : Fld Z h a O n d v) {g : JFrame} (hg : g.method = m) {rest : List Value} (hs : g.stack = .ref a :: rest) (hd : decode c.code g.pc = .ok (.getfield index, 3)) :
    ∃ T', Stand p l e R s m args below meth c T' locs cells slots ∧ T'.heap = h ∧ ∀ target, Steps p.tables e below (T'.setTop { g with pc := g.pc + 3, stack := v :: rest }) target → Steps p.tables e below (T.setTop g) target := by
  obtain ⟨cell, cf, k, i, f, h1, h2, h3, h4, -, -, h7⟩ := F
  have hr := own_ready X hZ hown w h2
  refine ⟨T, X, eT, fun target hk => ?_⟩
  subst hg
  jvm_step X.here [hx, hd, getfield.wp_ready (e := e) (s := T) (f := g) X.here.top hr h3 hs (by rw [eT]; exact h1) h4 h7]
  exact hk
theorem own_putR (X : Stand p l e R s m args below meth c T locs cells slots) (hx : p.tables.exec = Jvm.exec) (hZ : Z.Warmed39 s.vm) {own O n d C : String} {index kk : Nat} {ty : FieldType} (hown : s.vm.findClass own = some m.cls) (w : (Jvm.Cond.fieldRef own index O n d).before a0 Z = true)
    (eT : T.heap = h) {a : Addr} {v v' old : Value} (F : Fld Z h a O n d old) (E : Exa Z h a C) (L : (Jvm.Cond.lays C O n d).before a0 Z = true) (wi : (Jvm.Cond.instantiable C kk).before a0 Z = true)
    (hty : parseFieldDescriptor d = some ty) (hn : narrow ty v = v') (hf : fits ty v' = true) {g : JFrame} (hg : g.method = m) {rest : List Value} (hs : g.stack = v :: .ref a :: rest) (hd : decode c.code g.pc = .ok (.putfield index, 3)) :
    ∃ T' h', Stand p l e R s m args below meth c T' (locs ++ [⟨a, Jvm.RoadKit.slotOf Z O n d⟩]) cells slots ∧ T'.heap = h' ∧ Wr h h' a (Jvm.RoadKit.slotOf Z O n d) v' ∧ ∀ target, Steps p.tables e below (T'.setTop { g with pc := g.pc + 3, stack := rest }) target → Steps p.tables e below (T.setTop g) target := by
  obtain ⟨cell, cf, k, i, f, h1, h2, h3, h4, h5, -, h7⟩ := F
  have hr := own_ready X hZ hown w h2
  obtain ⟨cell', kc, e1, e2, e3, -⟩ := E
  cases h1.symm.trans e1
  obtain ⟨c1, k1, c3, k3, i1, f1, a1, a2, a3, -, a5, -, a7, -⟩ := Cond.lays_spec L
  cases h2.symm.trans a3
  cases e2.symm.trans a1
  obtain ⟨c2, k2, j1, j2, j3, -⟩ := Cond.instantiable_spec wi
  cases e2.symm.trans j1
  cases a2.symm.trans j2
  have ht := (State.fieldFound?_type h2 hty).2
  have hslot : Z.slotType? cell.cls cell.vm f.slot = some ty := by
    simp only [State.slotType?, a2, Option.bind_eq_bind, Option.bind_some, j3]
    cases hq : cell.vm <;> first | (rw [hq] at h5; exact Bool.noConfusion h5) | (rw [a7, ht])
  have hfZ : Z.fitsSlot cell.cls cell.vm f.slot v' = true := by simp [State.fitsSlot, hslot, hf]
  have hfT : T.fitsSlot cell.cls cell.vm f.slot v' = true := by
    have hW : Z.Warmed39 T.vm := wtrans hZ X.warmed
    rw [← State.fitsSlot_setVm hW.alike] at hfZ
    exact hfZ
  have hlt := (Array.getElem?_eq_some_iff.mp h7).1
  have es : Jvm.RoadKit.slotOf Z O n d = f.slot := by simp [Jvm.RoadKit.slotOf, h2]
  have hcell : T.heap[a]? = some cell := by rw [eT]; exact h1
  rw [es]
  refine ⟨_, _, X.stored hcell f.slot v', rfl, ⟨cell, h1, h5, hlt, by rw [← eT]; rfl⟩, fun target hk => ?_⟩
  subst hg
  have hnar : narrow f.type v = v' := by rw [ht]; exact hn
  jvm_step X.here [hx, hd, putfield.wp_ready (e := e) (s := T) (f := g) X.here.top hr h3 a5 hs hcell h4, hnar, hlt, hfT]
  exact hk
theorem own_privR (X : Stand p l e R s m args below meth c T locs cells slots) (hx : p.tables.exec = Jvm.exec) (hZ : Z.Warmed39 s.vm) {own : String} {index : Nat} {y : MethodName} {bytes : ByteArray} {maxL : Nat} {ret : Option FieldType}
    (hown : s.vm.findClass own = some m.cls) (hlink : (Jvm.Cond.methodRef own index y).before a0 Z = true) (hinst : (Jvm.Cond.instanceMethod y).before args s = true) (hsel : (Jvm.Cond.selects y.cls y y).before args s = true)
    (hpriv : s.PrivateAt y) (hcode : (Jvm.Cond.code y bytes maxL ret).before args s = true) (hy : y.cls ≠ "java/lang/invoke/MethodHandle" ∧ y.cls ≠ "java/lang/invoke/VarHandle")
    {W : Nat} {Pre : Free.Pt → Array Value → Prop} {Post : Free.Pt → Array Value → Option Value → Free.Pt → Prop} (hK : Free.Back l R p e below s args y 3 W Pre Post)
    {g : JFrame} (hg : g.method = m) (hsize : g.locals.size = c.maxLocals) {s₀ : State} (hcome : Steps p.tables e below s₀ (T.setTop g)) {a : Addr} {cell : Cell} (hcell : T.heap[a]? = some cell) (hobj : ∀ q, cell.vm ≠ .statics q)
    {argsL rest : List Value} (hlen : ∀ sig, parseMethodDescriptor y.desc = some sig → argsL.length = sig.parameters.length)
    (hstack : g.stack = argsL.reverse ++ .ref a :: rest) (hW : 2 * g.monitorRoom + (rest.map fun v => v.category).sum ≤ W) (hdg : decode c.code g.pc = .ok (.invokevirtual index, 3))
    (hpre : Pre ⟨T, locs, cells, slots⟩ (.ref a :: argsL).toArray) :
    ∃ (v : Option Value) (B : Free.Pt), Stand p l e R s m args below meth c B.U B.locs B.cells B.slots ∧ Post ⟨T, locs, cells, slots⟩ (.ref a :: argsL).toArray v B ∧
      Steps p.tables e below s₀ (B.U.setTop { g with pc := g.pc + 3, stack := v.toList ++ rest }) := by
  obtain ⟨mk, methM, hnamed, hmethM, hstM, habM⟩ := Cond.instanceMethod_spec hinst
  obtain ⟨methM', cM, hmethM', -, -, -, -, -, -, hsigM⟩ := Cond.code_spec hnamed hcode
  cases hmethM.symm.trans hmethM'
  obtain ⟨c2, r2, m2, -, -, q3, -, kP, hkP, hkPi⟩ := Cond.selects_spec hsel
  cases hnamed.symm.trans q3
  have hselP : selectMethod e.platform s.vm cell.cls mk = .method mk := selectMethod_private hmethM (hpriv mk methM hnamed hmethM)
  have hZT : Z.Warmed39 T.vm := wtrans hZ X.warmed
  have al := X.warmed.alike
  have hnT : T.methodNamed? y = some mk := X.named hnamed
  have hnZ : Z.methodNamed? y = some mk := by
    have q := State.methodNamed?_setVm (s := Z) hZT.alike y
    exact q.symm.trans hnT
  have w' := Cond.methodRef_warmed39 hZT hnZ hy hlink
  obtain ⟨m1, c1, u1, u2, u3, u4⟩ := Cond.methodRef_named (s := Z.setVm T.vm) e (cur := m.cls) (by show T.vm.findClass own = some m.cls; rw [al.findClass]; exact hown) w'
  have um : (Z.setVm T.vm).methodFound? y.cls y.name y.desc = some mk := State.methodFound?_of_named (s := Z.setVm T.vm) hnT hy
  cases um.symm.trans u1
  have uc : T.vm.findClass y.cls = some mk.cls := findClass_of_methodNamed hnT
  cases uc.symm.trans u3
  obtain ⟨k2, hk2, he2⟩ := al.2.2 _ _ hkP
  have hpoly : signaturePolymorphic k2 methM = false := by
    obtain ⟨kx, hkx, hnx⟩ := className_of_methodNamed hnT
    cases hk2.symm.trans hkx
    simp [signaturePolymorphic, hnx, hy.1, hy.2]
  have hmT : T.vm.method? mk = some methM := by rw [al.method?]; exact hmethM
  have hst : ∀ target, (∀ acts, Steps p.tables e below (doInvoke e (T.setTop { g with stack := rest }) acts mk (.ref a :: argsL).toArray).1 target) → Steps p.tables e below (T.setTop g) target := fun target hrest => by
    subst hg
    jvm_step X.here [hx, hdg, invokevirtual.wp_named (e := e) (s := T) (f := g) (r := mk) (m := mk) (c' := mk.cls) (k := k2) (k' := k2) (mk := k2) (rmeth := methM) (meth := methM) (a := a) (args := argsL) (rest := rest) (cell := cell)
      X.here.top u4 hk2 (by rw [he2]; exact hkPi) u2 hk2 hmT hpoly hstM (hlen _ hsigM) hstack hcell hobj
      (by rw [al.selectMethod]; exact hselP) hmT habM hk2 (by rw [he2]; exact hkPi)]
    exact hrest
  obtain ⟨v, B, X', hpost, hsteps⟩ := hK m meth c ⟨T, locs, cells, slots⟩ { g with stack := rest } (.invokevirtual index) mk (.ref a :: argsL).toArray X hg hsize hdg hW hnT hpre
  exact ⟨v, B, X', hpost, (hcome.trans (hst _ fun acts => by rw [doInvoke_state]; exact Steps.refl _)).trans hsteps⟩
end Warm
theorem own_selPriv {s : State} {args : Array Value} {C : String} {y y' : MethodName} (hs : (Jvm.Cond.selects C y' y').before args s = true) (e : y'.cls = y.cls) (hpriv : s.PrivateAt y)
    (hinst : (Jvm.Cond.instanceMethod y).before args s = true) (hy : y.cls ≠ "java/lang/invoke/MethodHandle" ∧ y.cls ≠ "java/lang/invoke/VarHandle") : (Jvm.Cond.selects y.cls y y).before args s = true := by
  obtain ⟨c2, r2, m2, -, -, q3, -, kP, hkP, hkPi⟩ := Cond.selects_spec hs
  exact selects_self_of_private (e ▸ findClass_of_methodNamed q3) hkP hkPi hpriv hinst hy
section OwnW
variable {p : Program} {l : Launch} {e : Env} {R : Room} {s : State} {m : MethodId} {args : Array Value} {below : List Frame} {meth : Method} {c : Code} {T T' : State} {locs : List Loc} {cells slots : Nat} {QQ : Option Value → Heap → List Loc → Prop} {kc ks : Nat} {f f' : JFrame}
def own_GoesW (p : Program) (e : Env) (below : List Frame) (s : State) (QQ : Option Value → Heap → List Loc → Prop) (kc ks : Nat) (T : State) (f : JFrame) : Prop :=
  ∃ s₂ o, Steps p.tables e below (T.setTop f) s₂ ∧ s₂.status = .running ∧ Ended s₂ below o ∧ ∃ v L, o = .returned v ∧ QQ v s₂.heap L ∧ ReturnedEndW s o s₂ L kc ks
theorem own_stepW (st : ∀ target, Steps p.tables e below (T'.setTop f') target → Steps p.tables e below (T.setTop f) target) (h : own_GoesW p e below s QQ kc ks T' f') : own_GoesW p e below s QQ kc ks T f := by
  obtain ⟨s₂, o, h1, r⟩ := h
  exact ⟨s₂, o, st _ h1, r⟩
theorem own_jumpW (st : Steps p.tables e below (T.setTop f) (T'.setTop f')) (h : own_GoesW p e below s QQ kc ks T' f') : own_GoesW p e below s QQ kc ks T f := by
  obtain ⟨s₂, o, h1, r⟩ := h
  exact ⟨s₂, o, st.trans h1, r⟩
theorem own_outW {vm : Vm} {v : Option Value} (X : Stand p l e R (s.setVm vm) m args below meth c T locs cells slots) {n : Nat} (hS : s.Since vm n) (hn : n ≤ T.heap.size) (hlk : meth.locks = false) (hv : meth.sig.returnType = none → v = none)
    (st : ∀ fs, (∀ (f : JFrame) (acts : List Action), f.method = m → f.locked = none → f.entered = [] → (doReturn e (T.setTop f) acts v).1 = T.setFrames fs) → Steps p.tables e below (T.setTop f) (T.setFrames fs)) (hc : cells ≤ kc) (hs : slots ≤ ks) (hq : QQ v T.heap locs) : own_GoesW p e below s QQ kc ks T f := by
  obtain ⟨fs, hr, hrun, hended, h1, h2, h3, h4⟩ := X.leaveW hS hn (v := v) hv hlk
  exact ⟨_, _, st fs hr, hrun, hended, v, locs, rfl, hq, ⟨_, rfl⟩, h2, h3, h4.mono hc hs⟩
end OwnW
theorem d2_0 : decode jdk_43_method_3_code 0 = .ok (.iload_n 0, 1) := by decide +kernel
theorem d2_1 : decode jdk_43_method_3_code 1 = .ok (.sipush 255, 3) := by decide +kernel
theorem d2_4 : decode jdk_43_method_3_code 4 = .ok (.if_icmp .gt 7, 3) := by decide +kernel
theorem d2_7 : decode jdk_43_method_3_code 7 = .ok (.iconst 1, 1) := by decide +kernel
theorem d2_8 : decode jdk_43_method_3_code 8 = .ok (.goto 4, 3) := by decide +kernel
theorem d2_12 : decode jdk_43_method_3_code 12 = .ok (.ireturn, 1) := by decide +kernel
theorem pn_0 : plainName "java/lang/StringLatin1" = true := by first | (simp [plainName, overriddenIn]; done) | decide +kernel
theorem ef_2 (m : MethodId) (x0 : Int32) : entryFrame m #[(.int x0)] 1 = mkF m 0 #[.val (.int x0)] [] := by first | (simp [entryFrame, mkF, argsToLocals, Value.category]; done) | rfl
def Q2 (Z : State) (p1 : Int32) (h0 : Heap) (n0 : Nat) (v : Option Value) (h : Heap) (L : List Loc) : Prop := v = some (.int (1 : Int32)) ∧ L = [] ∧ h = h0
abbrev R2 : Room := { frames := 0, cells := 0, slots := 0, locals := 0 }
set_option maxRecDepth 65536 in
set_option maxHeartbeats 40000000 in
theorem rm2 (l : Launch) (Z : State) (a0 : Array Value) (hw : ∀ d ∈ tables_1, d.before a0 Z = true) (ws : List Jvm.Cond) (p1 : Int32) (h0 : Heap) (n0 : Nat) (Z0 : n0 ≤ h0.size) (hq : ¬ (255 : Int32) < p1) :
    MetFree l (⟨"java/lang/StringLatin1", "canEncode", "(C)Z"⟩ : MethodName) (head1 (Jvm.Cond.code (⟨"java/lang/StringLatin1", "canEncode", "(C)Z"⟩ : MethodName) jdk_43_method_3_code 1 (some .boolean) :: ws) R2) (fun a U => a = #[(.int p1)] ∧ Z.Warmed39 U.vm ∧ U.heap = h0) (fun _ _ _ _ _ => True) (fun _ U o U' => ∃ v L, o = .returned v ∧ Q2 Z p1 h0 n0 v U'.heap L ∧ FrameEnd U o U' L R2.cells R2.slots) := by
  refine MetFree.of_bodySF (plainFor_of_name pn_0) hisR ?_
  intro p e s m args below meth c s₁ Bd hml0 hP hK
  obtain ⟨rfl, hZ, hh⟩ := hP
  have hx := Bd.exec
  have hby := Bd.bytes
  have hlk : meth.locks = false := BodyLoose.notSynchronized Bd
  have hml : c.maxLocals = 1 := hml0
  have hown : s.vm.findClass "java/lang/StringLatin1" = some m.cls := findClass_of_methodNamed Bd.named
  have hnm := (name_of_methodNamed Bd.named Bd.method).1
  have X0 : Stand p l e R2 s m #[(.int p1)] below meth c s₁ [] 0 0 := Stand.of_body Bd
  have e0 : s₁.heap = h0 := by rw [← hh, Bd.state]; rfl
  have N0 := Fr.nil n0
  show own_Goes p e below s (Q2 Z p1 h0 n0) R2.cells R2.slots s₁ (entryFrame m #[(.int p1)] 1)
  rw [ef_2 m p1]
  refine own_step (f' := (mkF m 1 #[.val (.int p1)] [(.int p1)])) (fun _ k => XS.iloadN X0.here hx rfl (hb hby d2_0) rfl k) ?_
  refine own_step (f' := (mkF m 4 #[.val (.int p1)] [(.int (255 : Int32)), (.int p1)])) (fun _ k => XS.sipush X0.here hx rfl (hb hby d2_1) k) ?_
  have hf4_1 : ¬ ((255 : Int32) < p1) := hq
  refine own_step (f' := (mkF m 7 #[.val (.int p1)] [])) (fun _ k => XS.icmpNo X0.here hx rfl (hb hby d2_4) rfl (flt hf4_1).2.2.1 k) ?_
  refine own_step (f' := (mkF m 8 #[.val (.int p1)] [(.int (1 : Int32))])) (fun _ k => XS.iconst X0.here hx rfl (hb hby d2_7) k) ?_
  refine own_step (f' := (mkF m 12 #[.val (.int p1)] [(.int (1 : Int32))])) (fun _ k => XS.goto X0.here hx rfl (pc0 := 8) (pc' := 12) rfl (hb hby d2_8) (by decide) (by decide) k) ?_
  refine own_out (v := some (.int (1 : Int32))) X0 hlk (fun h => by rw [Bd.returns] at h; cases h) (fun fs hr => retN X0 hx (t := .boolean) Bd.returns (by simp) (hb hby d2_12) hr) (by decide) (by decide) ?_
  rw [e0]
  exact ⟨rfl, rfl, rfl⟩
abbrev own_HW (a0 : Array Value) (Z : State) : Prop := ∀ d ∈ tables_1, d.before a0 Z = true
theorem own_at {a0 : Array Value} {Z : State} (hw : own_HW a0 Z) (i : Nat) {d : Jvm.Cond} (h : tables_1[i]? = some d) : d.before a0 Z = true := hw _ (List.mem_of_getElem? h)
theorem own_w17 {a0 Z} (hw : own_HW a0 Z) : (Cond.arrayClass FieldType.byte).before a0 Z = true := own_at hw 17 rfl
theorem d3_0 : decode jdk_43_method_46_code 0 = .ok (.iconst 1, 1) := by decide +kernel
theorem d3_1 : decode jdk_43_method_46_code 1 = .ok (.newarray .byte, 2) := by decide +kernel
theorem d3_3 : decode jdk_43_method_46_code 3 = .ok (.dup, 1) := by decide +kernel
theorem d3_4 : decode jdk_43_method_46_code 4 = .ok (.iconst 0, 1) := by decide +kernel
theorem d3_5 : decode jdk_43_method_46_code 5 = .ok (.iload_n 0, 1) := by decide +kernel
theorem d3_6 : decode jdk_43_method_46_code 6 = .ok (.i2b, 1) := by decide +kernel
theorem d3_7 : decode jdk_43_method_46_code 7 = .ok (.bastore, 1) := by decide +kernel
theorem d3_8 : decode jdk_43_method_46_code 8 = .ok (.areturn, 1) := by decide +kernel
theorem ef_3 (m : MethodId) (x0 : Int32) : entryFrame m #[(.int x0)] 1 = mkF m 0 #[.val (.int x0)] [] := by first | (simp [entryFrame, mkF, argsToLocals, Value.category]; done) | rfl
def Q3 (Z : State) (p1 : Int32) (h0 : Heap) (n0 : Nat) (v : Option Value) (h : Heap) (L : List Loc) : Prop := ∃ b : Addr, v = some (.ref b) ∧ n0 ≤ b ∧ h0.size ≤ b ∧ Fr n0 L ∧ Keep h0 h []
abbrev R3 : Room := { frames := 0, cells := 1, slots := 1, locals := 0 }
set_option maxRecDepth 65536 in
set_option maxHeartbeats 40000000 in
theorem rm3 (l : Launch) (Z : State) (a0 : Array Value) (hw : ∀ d ∈ tables_1, d.before a0 Z = true) (ws : List Jvm.Cond) (p1 : Int32) (h0 : Heap) (n0 : Nat) (Z0 : n0 ≤ h0.size)  :
    MetFree l (⟨"java/lang/StringLatin1", "toBytes", "(C)[B"⟩ : MethodName) (head1 (Jvm.Cond.code (⟨"java/lang/StringLatin1", "toBytes", "(C)[B"⟩ : MethodName) jdk_43_method_46_code 1 (some (.array .byte)) :: ws) R3) (fun a U => a = #[(.int p1)] ∧ Z.Warmed39 U.vm ∧ U.heap = h0) (fun _ _ _ _ _ => True) (fun _ U o U' => ∃ v L, o = .returned v ∧ Q3 Z p1 h0 n0 v U'.heap L ∧ FrameEnd U o U' L R3.cells R3.slots) := by
  refine MetFree.of_bodySF (plainFor_of_name pn_0) hisR ?_
  intro p e s m args below meth c s₁ Bd hml0 hP hK
  obtain ⟨rfl, hZ, hh⟩ := hP
  have hx := Bd.exec
  have hby := Bd.bytes
  have hlk : meth.locks = false := BodyLoose.notSynchronized Bd
  have hml : c.maxLocals = 1 := hml0
  have hown : s.vm.findClass "java/lang/StringLatin1" = some m.cls := findClass_of_methodNamed Bd.named
  have hnm := (name_of_methodNamed Bd.named Bd.method).1
  have X0 : Stand p l e R3 s m #[(.int p1)] below meth c s₁ [] 0 0 := Stand.of_body Bd
  have e0 : s₁.heap = h0 := by rw [← hh, Bd.state]; rfl
  have N0 := Fr.nil n0
  show own_Goes p e below s (Q3 Z p1 h0 n0) R3.cells R3.slots s₁ (entryFrame m #[(.int p1)] 1)
  rw [ef_3 m p1]
  refine own_step (f' := (mkF m 1 #[.val (.int p1)] [(.int (1 : Int32))])) (fun _ k => XS.iconst X0.here hx rfl (hb hby d3_0) k) ?_
  obtain ⟨T1, h1, k1, X1, e1, E1, A1, st1⟩ := newP X0 hx hZ (aty := .byte) (own_w17 hw) e0 (g := (mkF m 1 #[.val (.int p1)] [(.int (1 : Int32))])) rfl (hb hby d3_1) rfl (by decide) (cap := 1) (by decide) (by decide) (by decide) (by decide)
  obtain ⟨b1, g1⟩ : ∃ z, z = h0.size := ⟨_, rfl⟩
  rw [← g1] at A1 st1
  have g_b1 : n0 ≤ b1 := Nat.le_trans Z0 (Nat.le_of_eq g1.symm)
  have sz_b1 : h0.size ≤ b1 := Nat.le_trans (Keep.refl h0 []).1 (Nat.le_of_eq g1.symm)
  have V_b1 : Arv Z h1 b1 k1 .byte (1 : Int32) [(.int (0 : Int32))] (.int (0 : Int32)) := (Arv.new A1 (by decide)).pad (pad_rep [] (.int (0 : Int32)) 1)
  refine own_step (f' := (mkF m 3 #[.val (.int p1)] [(.ref b1)])) st1 ?_
  refine own_step (f' := (mkF m 4 #[.val (.int p1)] [(.ref b1), (.ref b1)])) (fun _ k => XS.dup X1.here hx rfl (hb hby d3_3) rfl rfl k) ?_
  refine own_step (f' := (mkF m 5 #[.val (.int p1)] [(.int (0 : Int32)), (.ref b1), (.ref b1)])) (fun _ k => XS.iconst X1.here hx rfl (hb hby d3_4) k) ?_
  refine own_step (f' := (mkF m 6 #[.val (.int p1)] [(.int p1), (.int (0 : Int32)), (.ref b1), (.ref b1)])) (fun _ k => XS.iloadN X1.here hx rfl (hb hby d3_5) rfl k) ?_
  refine own_step (f' := (mkF m 7 #[.val (.int p1)] [(.int (p1.toInt8.toInt32)), (.int (0 : Int32)), (.ref b1), (.ref b1)])) (fun _ k => XS.i2b X1.here hx rfl (hb hby d3_6) rfl k) ?_
  obtain ⟨cl2, Ar2, qa2, Sa2, Na2, Ha2, Ga2⟩ := id (V_b1)
  have hin3 : ¬ ((0 : Int32) < 0 ∨ cl2.slots.size ≤ ((0 : Int32)).toNatClampNeg) := inb_of Sa2 ⟨by decide, by decide⟩
  obtain ⟨T3, h3, X3, e3, W3, st3⟩ := stB X1 hx hZ e1 Ar2 (j := (0 : Int32)) hin3 (g := (mkF m 7 #[.val (.int p1)] [(.int (p1.toInt8.toInt32)), (.int (0 : Int32)), (.ref b1), (.ref b1)])) rfl rfl (hb hby d3_7)
  have V3 : Arv Z h3 b1 k1 .byte (1 : Int32) [(.int (nar .byte (p1.toInt8.toInt32)))] (.int (0 : Int32)) := Arv.set Ar2 qa2 Sa2 Na2 Ha2 Ga2 (fits_nar_byte _) W3 0 rfl (Nat.le_of_ble_eq_true rfl)
  obtain ⟨Lo3, X3, N3⟩ : ∃ K, Stand p l e R3 s m #[(.int p1)] below meth c T3 K 1 1 ∧ Fr n0 K := ⟨_, X3, (Fr.snoc X3 N0 g_b1)⟩
  refine own_step (f' := (mkF m 8 #[.val (.int p1)] [(.ref b1)])) st3 ?_
  refine own_out (v := some (.ref b1)) X3 hlk (fun h => by rw [Bd.returns] at h; cases h) (fun fs hr => retOut X3 hx Bd.returns rfl (Or.inr (Or.inr (Or.inr (Or.inr ⟨rfl, rfl, rfl⟩)))) (hb hby d3_8) hr) (by decide) (by decide) ?_
  rw [e3]
  exact ⟨b1, rfl, g_b1, sz_b1, N3, (((Keep.refl h0 []).ext E1).wr W3 (Or.inr sz_b1))⟩
theorem own_w22 {a0 Z} (hw : own_HW a0 Z) : (Cond.methodLink "java/lang/String" (1 : Nat) ⟨"java/lang/Object", "<init>", "()V"⟩).before a0 Z = true := own_at hw 22 rfl
theorem own_w24 {a0 Z} (hw : own_HW a0 Z) : (Cond.code ⟨"java/lang/Object", "<init>", "()V"⟩ object_method_1_code (1 : Nat) none).before a0 Z = true := own_at hw 24 rfl
theorem own_w23 {a0 Z} (hw : own_HW a0 Z) : (Cond.instanceMethod ⟨"java/lang/Object", "<init>", "()V"⟩).before a0 Z = true := own_at hw 23 rfl
theorem own_w25 {a0 Z} (hw : own_HW a0 Z) : (Cond.fieldLink "java/lang/String" (9 : Nat) "java/lang/String" "value" "[B").before a0 Z = true := own_at hw 25 rfl
theorem own_w26 {a0 Z} (hw : own_HW a0 Z) : (Cond.laysFinal "java/lang/String" "java/lang/String" "value" "[B").before a0 Z = true := own_at hw 26 rfl
theorem own_w13 {a0 Z} (hw : own_HW a0 Z) : (Cond.instantiable "java/lang/String" (4 : Nat)).before a0 Z = true := own_at hw 13 rfl
theorem own_fd_0 : parseFieldDescriptor "[B" = some (.array .byte) := by decide +kernel
theorem own_w28 {a0 Z} (hw : own_HW a0 Z) : (Cond.laysFinal "java/lang/String" "java/lang/String" "coder" "B").before a0 Z = true := own_at hw 28 rfl
theorem own_fd_1 : parseFieldDescriptor "B" = some .byte := by decide +kernel
theorem own_w27 {a0 Z} (hw : own_HW a0 Z) : (Cond.fieldLink "java/lang/String" (15 : Nat) "java/lang/String" "coder" "B").before a0 Z = true := own_at hw 27 rfl
theorem d4_0 : decode jdk_42_method_151_code 0 = .ok (.aload_n 0, 1) := by decide +kernel
theorem d4_1 : decode jdk_42_method_151_code 1 = .ok (.invokespecial 1, 3) := by decide +kernel
theorem d4_4 : decode jdk_42_method_151_code 4 = .ok (.aload_n 0, 1) := by decide +kernel
theorem d4_5 : decode jdk_42_method_151_code 5 = .ok (.aload_n 1, 1) := by decide +kernel
theorem d4_6 : decode jdk_42_method_151_code 6 = .ok (.putfield 9, 3) := by decide +kernel
theorem d4_9 : decode jdk_42_method_151_code 9 = .ok (.aload_n 0, 1) := by decide +kernel
theorem d4_10 : decode jdk_42_method_151_code 10 = .ok (.iload_n 2, 1) := by decide +kernel
theorem d4_11 : decode jdk_42_method_151_code 11 = .ok (.putfield 15, 3) := by decide +kernel
theorem d4_14 : decode jdk_42_method_151_code 14 = .ok (.return_, 1) := by decide +kernel
theorem pn_1 : plainName "java/lang/String" = true := by first | (simp [plainName, overriddenIn]; done) | decide +kernel
theorem ef_4 (m : MethodId) (x0 : Addr) (x1 : Addr) (x2 : Int32) : entryFrame m #[(.ref x0), (.ref x1), (.int x2)] 3 = mkF m 0 #[.val (.ref x0), .val (.ref x1), .val (.int x2)] [] := by first | (simp [entryFrame, mkF, argsToLocals, Value.category]; done) | rfl
def Q4 (Z : State) (a1 : Addr) (a2 : Addr) (u1 : Value) (u2 : Value) (h0 : Heap) (n0 : Nat) (v : Option Value) (h : Heap) (L : List Loc) : Prop := v = none ∧ Fr n0 L ∧ Keep h0 h [a1] ∧ Exa Z h a1 "java/lang/String"
abbrev R4 : Room := { frames := 1, cells := 0, slots := 0, locals := 12 }
set_option maxRecDepth 65536 in
set_option maxHeartbeats 40000000 in
theorem rm4 (l : Launch) (Z : State) (a0 : Array Value) (hw : ∀ d ∈ tables_1, d.before a0 Z = true) (ws : List Jvm.Cond) (a1 : Addr) (a2 : Addr) (u1 : Value) (u2 : Value) (h0 : Heap) (n0 : Nat) (Z0 : n0 ≤ h0.size) (E_a1 : Exa Z h0 a1 "java/lang/String") (F_value_a1 : Fld Z h0 a1 "java/lang/String" "value" "[B" u1) (F_coder_a1 : Fld Z h0 a1 "java/lang/String" "coder" "B" u2) (g_a1 : n0 ≤ a1) :
    MetFree l (⟨"java/lang/String", "<init>", "([BB)V"⟩ : MethodName) (head1 (Jvm.Cond.code (⟨"java/lang/String", "<init>", "([BB)V"⟩ : MethodName) jdk_42_method_151_code 3 none :: ws) R4) (fun a U => a = #[(.ref a1), (.ref a2), (.int (0 : Int32))] ∧ Z.Warmed39 U.vm ∧ U.heap = h0) (fun _ _ _ _ _ => True) (fun _ U o U' => ∃ v L, o = .returned v ∧ Q4 Z a1 a2 u1 u2 h0 n0 v U'.heap L ∧ FrameEnd U o U' L R4.cells R4.slots) := by
  refine MetFree.of_bodySF (plainFor_of_name pn_1) hisR ?_
  intro p e s m args below meth c s₁ Bd hml0 hP hK
  obtain ⟨rfl, hZ, hh⟩ := hP
  have hx := Bd.exec
  have hby := Bd.bytes
  have hlk : meth.locks = false := BodyLoose.notSynchronized Bd
  have hml : c.maxLocals = 3 := hml0
  have hown : s.vm.findClass "java/lang/String" = some m.cls := findClass_of_methodNamed Bd.named
  have hnm := (name_of_methodNamed Bd.named Bd.method).1
  have X0 : Stand p l e R4 s m #[(.ref a1), (.ref a2), (.int (0 : Int32))] below meth c s₁ [] 0 0 := Stand.of_body Bd
  have e0 : s₁.heap = h0 := by rw [← hh, Bd.state]; rfl
  have N0 := Fr.nil n0
  show own_Goes p e below s (Q4 Z a1 a2 u1 u2 h0 n0) R4.cells R4.slots s₁ (entryFrame m #[(.ref a1), (.ref a2), (.int (0 : Int32))] 3)
  rw [ef_4 m a1 a2 (0 : Int32)]
  refine own_step (f' := (mkF m 1 #[.val (.ref a1), .val (.ref a2), .val (.int (0 : Int32))] [(.ref a1)])) (fun _ k => XS.aloadN X0.here hx rfl (hb hby d4_0) rfl rfl k) ?_
  obtain ⟨T1, X1, e1, st1⟩ := initO X0 hx hZ hown (own_w22 hw) (own_w23 hw) (own_w24 hw) e0 (g := (mkF m 1 #[.val (.ref a1), .val (.ref a2), .val (.int (0 : Int32))] [(.ref a1)])) rfl (by rw [hml]; rfl) rfl (hb hby d4_1) (by decide) (W := 0) (by show 2 * 0 + _ ≤ _; exact Nat.le_of_eq rfl) (by decide)
  refine own_step (f' := (mkF m 4 #[.val (.ref a1), .val (.ref a2), .val (.int (0 : Int32))] [])) st1 ?_
  refine own_step (f' := (mkF m 5 #[.val (.ref a1), .val (.ref a2), .val (.int (0 : Int32))] [(.ref a1)])) (fun _ k => XS.aloadN X1.here hx rfl (hb hby d4_4) rfl rfl k) ?_
  refine own_step (f' := (mkF m 6 #[.val (.ref a1), .val (.ref a2), .val (.int (0 : Int32))] [(.ref a2), (.ref a1)])) (fun _ k => XS.aloadN X1.here hx rfl (hb hby d4_5) rfl rfl k) ?_
  obtain ⟨T2, h2, X2, e2, W2, st2⟩ := putF X1 hx hZ hown (host := "") (Or.inl (own_w25 hw)) Via.refl e1 F_value_a1 E_a1 (Or.inr ⟨(own_w26 hw), rfl, hnm⟩) (own_w13 hw) own_fd_0 rfl rfl (g := (mkF m 6 #[.val (.ref a1), .val (.ref a2), .val (.int (0 : Int32))] [(.ref a2), (.ref a1)])) rfl rfl (hb hby d4_6)
  obtain ⟨Lo2, X2, N2⟩ : ∃ K, Stand p l e R4 s m #[(.ref a1), (.ref a2), (.int (0 : Int32))] below meth c T2 K 0 0 ∧ Fr n0 K := ⟨_, X2, (Fr.snoc X2 N0 g_a1)⟩
  refine own_step (f' := (mkF m 9 #[.val (.ref a1), .val (.ref a2), .val (.int (0 : Int32))] [])) st2 ?_
  refine own_step (f' := (mkF m 10 #[.val (.ref a1), .val (.ref a2), .val (.int (0 : Int32))] [(.ref a1)])) (fun _ k => XS.aloadN X2.here hx rfl (hb hby d4_9) rfl rfl k) ?_
  refine own_step (f' := (mkF m 11 #[.val (.ref a1), .val (.ref a2), .val (.int (0 : Int32))] [(.int (0 : Int32)), (.ref a1)])) (fun _ k => XS.iloadN X2.here hx rfl (hb hby d4_10) rfl k) ?_
  obtain ⟨T3, h3, X3, e3, W3, st3⟩ := putFN X2 hx hZ hown (own_w27 hw) Via.refl e2 (F_coder_a1.other W2 (Or.inr (Jvm.RoadKit.slot_ne (Or.inr (own_w28 hw)) (Or.inr (own_w26 hw)) (by decide) own_fd_1 own_fd_0))) (E_a1.wr W2) (Or.inr ⟨(own_w28 hw), rfl, hnm⟩) (own_w13 hw) (v' := (.int (0 : Int32))) own_fd_1 rfl rfl (g := (mkF m 11 #[.val (.ref a1), .val (.ref a2), .val (.int (0 : Int32))] [(.int (0 : Int32)), (.ref a1)])) rfl rfl (hb hby d4_11)
  obtain ⟨Lo3, X3, N3⟩ : ∃ K, Stand p l e R4 s m #[(.ref a1), (.ref a2), (.int (0 : Int32))] below meth c T3 K 0 0 ∧ Fr n0 K := ⟨_, X3, (Fr.snoc X3 N2 g_a1)⟩
  refine own_step (f' := (mkF m 14 #[.val (.ref a1), .val (.ref a2), .val (.int (0 : Int32))] [])) st3 ?_
  refine own_out (v := none) X3 hlk (fun _ => rfl) (fun fs hr => X3.returnOut hx Bd.returns (hb hby d4_14) hr) (by decide) (by decide) ?_
  rw [e3]
  exact ⟨rfl, N3, (((Keep.refl h0 [a1]).wr W2 (Or.inl (List.mem_of_getElem? (i := 0) rfl))).wr W3 (Or.inl (List.mem_of_getElem? (i := 0) rfl))), ((E_a1.wr W2).wr W3)⟩
theorem own_w7 {a0 Z} (hw : own_HW a0 Z) : (Cond.fieldLink "java/lang/String" (38 : Nat) "java/lang/String" "COMPACT_STRINGS" "Z").before a0 Z = true := own_at hw 7 rfl
theorem own_w8 {a0 Z} (hw : own_HW a0 Z) : (Cond.methodLink "java/lang/String" (1015 : Nat) ⟨"java/lang/StringLatin1", "canEncode", "(C)Z"⟩).before a0 Z = true := own_at hw 8 rfl
theorem own_w11 {a0 Z} (hw : own_HW a0 Z) : (Cond.code ⟨"java/lang/StringLatin1", "canEncode", "(C)Z"⟩ jdk_43_method_3_code (1 : Nat) (some FieldType.boolean)).before a0 Z = true := own_at hw 11 rfl
theorem own_w10 {a0 Z} (hw : own_HW a0 Z) : (Cond.initialized "java/lang/StringLatin1").before a0 Z = true := own_at hw 10 rfl
theorem pd_0 : parseMethodDescriptor "(C)Z" = some ⟨[.char], some .boolean⟩ := by decide +kernel
theorem own_w9 {a0 Z} (hw : own_HW a0 Z) : (Cond.static ⟨"java/lang/StringLatin1", "canEncode", "(C)Z"⟩).before a0 Z = true := own_at hw 9 rfl
theorem own_w12 {a0 Z} (hw : own_HW a0 Z) : (Cond.classLink "java/lang/String" (10 : Nat) "java/lang/String").before a0 Z = true := own_at hw 12 rfl
theorem own_w5 {a0 Z} (hw : own_HW a0 Z) : (Cond.initialized "java/lang/String").before a0 Z = true := own_at hw 5 rfl
theorem own_w14 {a0 Z} (hw : own_HW a0 Z) : (Cond.methodLink "java/lang/String" (1018 : Nat) ⟨"java/lang/StringLatin1", "toBytes", "(C)[B"⟩).before a0 Z = true := own_at hw 14 rfl
theorem own_w16 {a0 Z} (hw : own_HW a0 Z) : (Cond.code ⟨"java/lang/StringLatin1", "toBytes", "(C)[B"⟩ jdk_43_method_46_code (1 : Nat) (some (FieldType.array FieldType.byte))).before a0 Z = true := own_at hw 16 rfl
theorem pd_1 : parseMethodDescriptor "(C)[B" = some ⟨[.char], some (.array .byte)⟩ := by decide +kernel
theorem own_w15 {a0 Z} (hw : own_HW a0 Z) : (Cond.static ⟨"java/lang/StringLatin1", "toBytes", "(C)[B"⟩).before a0 Z = true := own_at hw 15 rfl
theorem own_w18 {a0 Z} (hw : own_HW a0 Z) : (Cond.methodLink "java/lang/String" (209 : Nat) ⟨"java/lang/String", "<init>", "([BB)V"⟩).before a0 Z = true := own_at hw 18 rfl
theorem own_w21 {a0 Z} (hw : own_HW a0 Z) : (Cond.code ⟨"java/lang/String", "<init>", "([BB)V"⟩ jdk_42_method_151_code (3 : Nat) none).before a0 Z = true := own_at hw 21 rfl
theorem pd_2 : parseMethodDescriptor "([BB)V" = some ⟨[(.array .byte), .byte], none⟩ := by decide +kernel
theorem own_w19 {a0 Z} (hw : own_HW a0 Z) : (Cond.instanceMethod ⟨"java/lang/String", "<init>", "([BB)V"⟩).before a0 Z = true := own_at hw 19 rfl
theorem d1_0 : decode jdk_42_method_139_code 0 = .ok (.getstatic 38, 3) := by decide +kernel
theorem d1_3 : decode jdk_42_method_139_code 3 = .ok (.ifCond .eq 23, 3) := by decide +kernel
theorem d1_6 : decode jdk_42_method_139_code 6 = .ok (.iload_n 0, 1) := by decide +kernel
theorem d1_7 : decode jdk_42_method_139_code 7 = .ok (.invokestatic 1015, 3) := by decide +kernel
theorem d1_10 : decode jdk_42_method_139_code 10 = .ok (.ifCond .eq 16, 3) := by decide +kernel
theorem d1_13 : decode jdk_42_method_139_code 13 = .ok (.new 10, 3) := by decide +kernel
theorem d1_16 : decode jdk_42_method_139_code 16 = .ok (.dup, 1) := by decide +kernel
theorem d1_17 : decode jdk_42_method_139_code 17 = .ok (.iload_n 0, 1) := by decide +kernel
theorem d1_18 : decode jdk_42_method_139_code 18 = .ok (.invokestatic 1018, 3) := by decide +kernel
theorem d1_21 : decode jdk_42_method_139_code 21 = .ok (.iconst 0, 1) := by decide +kernel
theorem d1_22 : decode jdk_42_method_139_code 22 = .ok (.invokespecial 209, 3) := by decide +kernel
theorem d1_25 : decode jdk_42_method_139_code 25 = .ok (.areturn, 1) := by decide +kernel
theorem ef_1 (m : MethodId) (x0 : Int32) : entryFrame m #[(.int x0)] 1 = mkF m 0 #[.val (.int x0)] [] := by first | (simp [entryFrame, mkF, argsToLocals, Value.category]; done) | rfl
def Q1 (Z : State) (p1 : Int32) (cz : Int32) (h0 : Heap) (n0 : Nat) (v : Option Value) (h : Heap) (L : List Loc) : Prop := ∃ b : Addr, v = some (.ref b) ∧ n0 ≤ b ∧ h0.size ≤ b ∧ Fr n0 L ∧ Keep h0 h [] ∧ Exa Z h b "java/lang/String"
abbrev R1 : Room := { frames := 2, cells := 2, slots := 5, locals := 27 }
set_option maxRecDepth 65536 in
set_option maxHeartbeats 40000000 in
theorem rm1 (l : Launch) (Z : State) (a0 : Array Value) (hw : ∀ d ∈ tables_1, d.before a0 Z = true) (ws : List Jvm.Cond) (p1 : Int32) (cz : Int32) (h0 : Heap) (n0 : Nat) (Z0 : n0 ≤ h0.size) (S_COMPACT_STRINGS : Sta Z h0 "java/lang/String" "COMPACT_STRINGS" "Z" (.int cz)) (hcz : ¬ cz = (0 : Int32)) (hq : ¬ (255 : Int32) < p1) :
    MetFree l (⟨"java/lang/String", "valueOf", "(C)Ljava/lang/String;"⟩ : MethodName) (head1 (Jvm.Cond.code (⟨"java/lang/String", "valueOf", "(C)Ljava/lang/String;"⟩ : MethodName) jdk_42_method_139_code 1 (some (.object "java/lang/String")) :: ws) R1) (fun a U => a = #[(.int p1)] ∧ Z.Warmed39 U.vm ∧ U.heap = h0) (fun _ _ _ _ _ => True) (fun _ U o U' => ∃ v L, o = .returned v ∧ Q1 Z p1 cz h0 n0 v U'.heap L ∧ FrameEnd U o U' L R1.cells R1.slots) := by
  refine MetFree.of_bodySF (plainFor_of_name pn_1) hisR ?_
  intro p e s m args below meth c s₁ Bd hml0 hP hK
  obtain ⟨rfl, hZ, hh⟩ := hP
  have hx := Bd.exec
  have hby := Bd.bytes
  have hlk : meth.locks = false := BodyLoose.notSynchronized Bd
  have hml : c.maxLocals = 1 := hml0
  have hown : s.vm.findClass "java/lang/String" = some m.cls := findClass_of_methodNamed Bd.named
  have hnm := (name_of_methodNamed Bd.named Bd.method).1
  have X0 : Stand p l e R1 s m #[(.int p1)] below meth c s₁ [] 0 0 := Stand.of_body Bd
  have e0 : s₁.heap = h0 := by rw [← hh, Bd.state]; rfl
  have N0 := Fr.nil n0
  show own_Goes p e below s (Q1 Z p1 cz h0 n0) R1.cells R1.slots s₁ (entryFrame m #[(.int p1)] 1)
  rw [ef_1 m p1]
  obtain ⟨T1, X1, e1, st1⟩ := getS2 X0 hx hZ hown (host := "") (Or.inl (own_w7 hw)) Via.refl e0 S_COMPACT_STRINGS (g := (mkF m 0 #[.val (.int p1)] [])) rfl (hb hby d1_0)
  refine own_step (f' := (mkF m 3 #[.val (.int p1)] [(.int cz)])) st1 ?_
  have hf3_2 : ¬ (cz = (0 : Int32)) := hcz
  refine own_step (f' := (mkF m 6 #[.val (.int p1)] [])) (fun _ k => XS.ifNo X1.here hx rfl (hb hby d1_3) rfl ((if0 _ _).trans (feq hf3_2).1) k) ?_
  refine own_step (f' := (mkF m 7 #[.val (.int p1)] [(.int p1)])) (fun _ k => XS.iloadN X1.here hx rfl (hb hby d1_6) rfl k) ?_
  have hp3_hq : ¬ (255 : Int32) < p1 := hq
  have Zq3 : n0 ≤ h0.size := Z0
  obtain ⟨_, _, ⟨T3, L3, k3, n3⟩, -, X3, ⟨Lc3, hQ3, l3, y3, z3⟩, st3⟩ := Jvm.LawKit.callS X1 hx (y := (⟨"java/lang/StringLatin1", "canEncode", "(C)Z"⟩ : MethodName)) hown (mvT hZ (own_w8 hw)) (mvT hZ (own_w9 hw)) (mvT hZ (own_w10 hw)) (mvT hZ (own_w11 hw)) (by decide) (backOf (W := 0) (rm2 l Z a0 hw [] p1 h0 n0 Zq3 hp3_hq) hZ (own_w11 hw) (own_w10 hw) (by decide) (by decide)) (g := (mkF m 7 #[.val (.int p1)] [(.int p1)])) rfl (by rw [hml]; rfl) (argsL := [(.int p1)]) (rest := []) (lenOf pd_0 rfl) rfl (by show 2 * 0 + _ ≤ _; exact Nat.le_of_eq rfl) (hb hby d1_7) (fun _ _ => ⟨rfl, e1, (by decide : 0 + 0 ≤ _), (by decide : 0 + 0 ≤ _)⟩)
  dsimp only [Pt.U, Pt.locs, Pt.cells, Pt.slots] at X3 l3 y3 z3 st3 hQ3
  subst l3 y3 z3
  obtain ⟨rfl, rfl, e3⟩ := hQ3
  try rw [List.append_nil] at X3
  refine own_step (f' := (mkF m 10 #[.val (.int p1)] [(.int (1 : Int32))])) st3 ?_
  refine own_step (f' := (mkF m 13 #[.val (.int p1)] [])) (fun _ k => XS.ifNo X3.here hx rfl (hb hby d1_10) rfl ((if0 _ _).trans (feq (by decide : ¬ ((1 : Int32) = (0 : Int32)))).1) k) ?_
  obtain ⟨T4, h4, X4, e4, E4, A4, D4, -, st4⟩ := newO X3 hx hZ hown (own_w12 hw) (own_w13 hw) (own_w5 hw) e3 (g := (mkF m 13 #[.val (.int p1)] [])) rfl (hb hby d1_13) (by decide) (by decide)
  obtain ⟨b4, g4⟩ : ∃ z, z = h0.size := ⟨_, rfl⟩
  rw [← g4] at A4 D4 st4
  have g_b4 : n0 ≤ b4 := Nat.le_trans Z0 (Nat.le_of_eq g4.symm)
  have sz_b4 : h0.size ≤ b4 := Nat.le_trans (Keep.refl h0 []).1 (Nat.le_of_eq g4.symm)
  have F_value_b4 : Fld Z h4 b4 "java/lang/String" "value" "[B" .null := D4 (Or.inr (own_w26 hw)) own_fd_0
  have F_coder_b4 : Fld Z h4 b4 "java/lang/String" "coder" "B" (.int (0 : Int32)) := D4 (Or.inr (own_w28 hw)) own_fd_1
  refine own_step (f' := (mkF m 16 #[.val (.int p1)] [(.ref b4)])) st4 ?_
  refine own_step (f' := (mkF m 17 #[.val (.int p1)] [(.ref b4), (.ref b4)])) (fun _ k => XS.dup X4.here hx rfl (hb hby d1_16) rfl rfl k) ?_
  refine own_step (f' := (mkF m 18 #[.val (.int p1)] [(.int p1), (.ref b4), (.ref b4)])) (fun _ k => XS.iloadN X4.here hx rfl (hb hby d1_17) rfl k) ?_
  have Zq5 : n0 ≤ h4.size := (Nat.le_trans Z0 E4.1)
  obtain ⟨_, _, ⟨T5, L5, k5, n5⟩, -, X5, ⟨Lc5, hQ5, l5, y5, z5⟩, st5⟩ := Jvm.LawKit.callS X4 hx (y := (⟨"java/lang/StringLatin1", "toBytes", "(C)[B"⟩ : MethodName)) hown (mvT hZ (own_w14 hw)) (mvT hZ (own_w15 hw)) (mvT hZ (own_w10 hw)) (mvT hZ (own_w16 hw)) (by decide) (backOf (W := 2) (rm3 l Z a0 hw [] p1 h4 n0 Zq5 ) hZ (own_w16 hw) (own_w10 hw) (by decide) (by decide)) (g := (mkF m 18 #[.val (.int p1)] [(.int p1), (.ref b4), (.ref b4)])) rfl (by rw [hml]; rfl) (argsL := [(.int p1)]) (rest := [(.ref b4), (.ref b4)]) (lenOf pd_1 rfl) rfl (by show 2 * 0 + _ ≤ _; exact Nat.le_of_eq rfl) (hb hby d1_18) (fun _ _ => ⟨rfl, e4, (by decide : 1 + 1 ≤ _), (by decide : 4 + 1 ≤ _)⟩)
  dsimp only [Pt.U, Pt.locs, Pt.cells, Pt.slots] at X5 l5 y5 z5 st5 hQ5
  subst l5 y5 z5
  obtain ⟨b5, rfl, g_b5, sq_b5, Nq5, K5⟩ := hQ5
  obtain ⟨Lo5, X5, N5⟩ : ∃ K, Stand p l e R1 s m #[(.int p1)] below meth c T5 K 2 5 ∧ Fr n0 K := ⟨_, X5, (Fr.app N0 Nq5)⟩
  have ne_b4_b5 : b4 ≠ b5 := Nat.ne_of_lt (Nat.lt_of_lt_of_le A4.lt sq_b5)
  have sz_b5 : h0.size ≤ b5 := Nat.le_trans ((Keep.refl h0 []).ext E4).1 sq_b5
  refine own_step (f' := (mkF m 21 #[.val (.int p1)] [(.ref b5), (.ref b4), (.ref b4)])) st5 ?_
  refine own_step (f' := (mkF m 22 #[.val (.int p1)] [(.int (0 : Int32)), (.ref b5), (.ref b4), (.ref b4)])) (fun _ k => XS.iconst X5.here hx rfl (hb hby d1_21) k) ?_
  have Zq6 : n0 ≤ T5.heap.size := (Nat.le_trans (Nat.le_trans Z0 E4.1) K5.1)
  obtain ⟨_, _, ⟨T6, L6, k6, n6⟩, -, X6, ⟨Lc6, hQ6, l6, y6, z6⟩, st6⟩ := X5.specialBack hx (y := (⟨"java/lang/String", "<init>", "([BB)V"⟩ : MethodName)) rfl hown (mvT hZ (own_w18 hw)) (mvT hZ (own_w19 hw)) (mvT hZ (own_w21 hw)) (by decide) (backOf (W := 1) (rm4 l Z a0 hw [] b4 b5 .null (.int (0 : Int32)) T5.heap n0 Zq6 (A4.keep K5) (F_value_b4.keep K5 nin0) (F_coder_b4.keep K5 nin0) g_b4) hZ (own_w21 hw) (own_w5 hw) (by decide) (by decide)) (g := (mkF m 22 #[.val (.int p1)] [(.int (0 : Int32)), (.ref b5), (.ref b4), (.ref b4)])) rfl (by rw [hml]; rfl) (Steps.refl _) (a := b4) (argsL := [(.ref b5), (.int (0 : Int32))]) (rest := [(.ref b4)]) (lenOf pd_2 rfl) rfl (by show 2 * 0 + _ ≤ _; exact Nat.le_of_eq rfl) (hb hby d1_22) (fun _ _ => ⟨rfl, rfl, (by decide : 2 + 0 ≤ _), (by decide : 5 + 0 ≤ _)⟩)
  dsimp only [Pt.U, Pt.locs, Pt.cells, Pt.slots] at X6 l6 y6 z6 st6 hQ6
  subst l6 y6 z6
  obtain ⟨rfl, Nq6, K6, P6_0⟩ := hQ6
  obtain ⟨Lo6, X6, N6⟩ : ∃ K, Stand p l e R1 s m #[(.int p1)] below meth c T6 K 2 5 ∧ Fr n0 K := ⟨_, X6, (Fr.app N5 Nq6)⟩
  refine own_jump (f' := (mkF m 25 #[.val (.int p1)] [(.ref b4)])) st6 ?_
  refine own_out (v := some (.ref b4)) X6 hlk (fun h => by rw [Bd.returns] at h; cases h) (fun fs hr => retOut X6 hx Bd.returns rfl (Or.inr (Or.inr (Or.inr (Or.inr ⟨rfl, rfl, rfl⟩)))) (hb hby d1_25) hr) (by decide) (by decide) ?_
  exact ⟨b4, rfl, g_b4, sz_b4, N6, ((((Keep.refl h0 []).ext E4).trans K5 all0).trans K6 (allS (Or.inr sz_b4) all0)), P6_0⟩
theorem own_w32 {a0 Z} (hw : own_HW a0 Z) : (Cond.methodLink "com/example/valbonne/valbonne/codec/Name" (1 : Nat) ⟨"java/lang/Object", "<init>", "()V"⟩).before a0 Z = true := own_at hw 32 rfl
theorem own_w33 {a0 Z} (hw : own_HW a0 Z) : (Cond.fieldLink "com/example/valbonne/valbonne/codec/Name" (7 : Nat) "com/example/valbonne/valbonne/codec/Name" "token" "I").before a0 Z = true := own_at hw 33 rfl
theorem own_w34 {a0 Z} (hw : own_HW a0 Z) : (Cond.laysFinal "com/example/valbonne/valbonne/codec/Name" "com/example/valbonne/valbonne/codec/Name" "token" "I").before a0 Z = true := own_at hw 34 rfl
theorem own_w1 {a0 Z} (hw : own_HW a0 Z) : (Cond.instantiable "com/example/valbonne/valbonne/codec/Name" (2 : Nat)).before a0 Z = true := own_at hw 1 rfl
theorem own_fd_2 : parseFieldDescriptor "I" = some .int := by decide +kernel
theorem own_w36 {a0 Z} (hw : own_HW a0 Z) : (Cond.laysFinal "com/example/valbonne/valbonne/codec/Name" "com/example/valbonne/valbonne/codec/Name" "name" "Ljava/lang/String;").before a0 Z = true := own_at hw 36 rfl
theorem own_fd_3 : parseFieldDescriptor "Ljava/lang/String;" = some (.object "java/lang/String") := by decide +kernel
theorem own_w35 {a0 Z} (hw : own_HW a0 Z) : (Cond.fieldLink "com/example/valbonne/valbonne/codec/Name" (13 : Nat) "com/example/valbonne/valbonne/codec/Name" "name" "Ljava/lang/String;").before a0 Z = true := own_at hw 35 rfl
theorem d6_0 : decode prog_63_method_1_code 0 = .ok (.aload_n 0, 1) := by decide +kernel
theorem d6_1 : decode prog_63_method_1_code 1 = .ok (.invokespecial 1, 3) := by decide +kernel
theorem d6_4 : decode prog_63_method_1_code 4 = .ok (.aload_n 0, 1) := by decide +kernel
theorem d6_5 : decode prog_63_method_1_code 5 = .ok (.iload_n 1, 1) := by decide +kernel
theorem d6_6 : decode prog_63_method_1_code 6 = .ok (.putfield 7, 3) := by decide +kernel
theorem d6_9 : decode prog_63_method_1_code 9 = .ok (.aload_n 0, 1) := by decide +kernel
theorem d6_10 : decode prog_63_method_1_code 10 = .ok (.aload_n 2, 1) := by decide +kernel
theorem d6_11 : decode prog_63_method_1_code 11 = .ok (.putfield 13, 3) := by decide +kernel
theorem d6_14 : decode prog_63_method_1_code 14 = .ok (.return_, 1) := by decide +kernel
theorem pn_2 : plainName "com/example/valbonne/valbonne/codec/Name" = true := by first | (simp [plainName, overriddenIn]; done) | decide +kernel
theorem ef_6 (m : MethodId) (x0 : Addr) (x1 : Int32) (x2 : Addr) : entryFrame m #[(.ref x0), (.int x1), (.ref x2)] 3 = mkF m 0 #[.val (.ref x0), .val (.int x1), .val (.ref x2)] [] := by first | (simp [entryFrame, mkF, argsToLocals, Value.category]; done) | rfl
def Q6 (Z : State) (a1 : Addr) (p2 : Int32) (a3 : Addr) (u1 : Value) (u2 : Value) (h0 : Heap) (n0 : Nat) (v : Option Value) (h : Heap) (L : List Loc) : Prop := v = none ∧ Fr n0 L ∧ Keep h0 h [a1] ∧ Exa Z h a1 own_NM
abbrev R6 : Room := { frames := 1, cells := 0, slots := 0, locals := 12 }
set_option maxRecDepth 65536 in
set_option maxHeartbeats 40000000 in
theorem rm6 (l : Launch) (Z : State) (a0 : Array Value) (hw : ∀ d ∈ tables_1, d.before a0 Z = true) (ws : List Jvm.Cond) (a1 : Addr) (p2 : Int32) (a3 : Addr) (u1 : Value) (u2 : Value) (h0 : Heap) (n0 : Nat) (Z0 : n0 ≤ h0.size) (E_a1 : Exa Z h0 a1 own_NM) (F_token_a1 : Fld Z h0 a1 own_NM "token" "I" u1) (F_name_a1 : Fld Z h0 a1 own_NM "name" "Ljava/lang/String;" u2) (g_a1 : n0 ≤ a1) :
    MetFree l (⟨own_NM, "<init>", "(ILjava/lang/String;)V"⟩ : MethodName) (head1 (Jvm.Cond.code (⟨own_NM, "<init>", "(ILjava/lang/String;)V"⟩ : MethodName) prog_63_method_1_code 3 none :: ws) R6) (fun a U => a = #[(.ref a1), (.int p2), (.ref a3)] ∧ Z.Warmed39 U.vm ∧ U.heap = h0) (fun _ _ _ _ _ => True) (fun _ U o U' => ∃ v L, o = .returned v ∧ Q6 Z a1 p2 a3 u1 u2 h0 n0 v U'.heap L ∧ FrameEnd U o U' L R6.cells R6.slots) := by
  refine MetFree.of_bodySF (plainFor_of_name pn_2) hisR ?_
  intro p e s m args below meth c s₁ Bd hml0 hP hK
  obtain ⟨rfl, hZ, hh⟩ := hP
  have hx := Bd.exec
  have hby := Bd.bytes
  have hlk : meth.locks = false := BodyLoose.notSynchronized Bd
  have hml : c.maxLocals = 3 := hml0
  have hown : s.vm.findClass own_NM = some m.cls := findClass_of_methodNamed Bd.named
  have hnm := (name_of_methodNamed Bd.named Bd.method).1
  have X0 : Stand p l e R6 s m #[(.ref a1), (.int p2), (.ref a3)] below meth c s₁ [] 0 0 := Stand.of_body Bd
  have e0 : s₁.heap = h0 := by rw [← hh, Bd.state]; rfl
  have N0 := Fr.nil n0
  show own_Goes p e below s (Q6 Z a1 p2 a3 u1 u2 h0 n0) R6.cells R6.slots s₁ (entryFrame m #[(.ref a1), (.int p2), (.ref a3)] 3)
  rw [ef_6 m a1 p2 a3]
  refine own_step (f' := (mkF m 1 #[.val (.ref a1), .val (.int p2), .val (.ref a3)] [(.ref a1)])) (fun _ k => XS.aloadN X0.here hx rfl (hb hby d6_0) rfl rfl k) ?_
  obtain ⟨T1, X1, e1, st1⟩ := initO X0 hx hZ hown (own_w32 hw) (own_w23 hw) (own_w24 hw) e0 (g := (mkF m 1 #[.val (.ref a1), .val (.int p2), .val (.ref a3)] [(.ref a1)])) rfl (by rw [hml]; rfl) rfl (hb hby d6_1) (by decide) (W := 0) (by show 2 * 0 + _ ≤ _; exact Nat.le_of_eq rfl) (by decide)
  refine own_step (f' := (mkF m 4 #[.val (.ref a1), .val (.int p2), .val (.ref a3)] [])) st1 ?_
  refine own_step (f' := (mkF m 5 #[.val (.ref a1), .val (.int p2), .val (.ref a3)] [(.ref a1)])) (fun _ k => XS.aloadN X1.here hx rfl (hb hby d6_4) rfl rfl k) ?_
  refine own_step (f' := (mkF m 6 #[.val (.ref a1), .val (.int p2), .val (.ref a3)] [(.int p2), (.ref a1)])) (fun _ k => XS.iloadN X1.here hx rfl (hb hby d6_5) rfl k) ?_
  obtain ⟨T2, h2, X2, e2, W2, st2⟩ := putF X1 hx hZ hown (host := "") (Or.inl (own_w33 hw)) Via.refl e1 F_token_a1 E_a1 (Or.inr ⟨(own_w34 hw), rfl, hnm⟩) (own_w1 hw) own_fd_2 rfl rfl (g := (mkF m 6 #[.val (.ref a1), .val (.int p2), .val (.ref a3)] [(.int p2), (.ref a1)])) rfl rfl (hb hby d6_6)
  obtain ⟨Lo2, X2, N2⟩ : ∃ K, Stand p l e R6 s m #[(.ref a1), (.int p2), (.ref a3)] below meth c T2 K 0 0 ∧ Fr n0 K := ⟨_, X2, (Fr.snoc X2 N0 g_a1)⟩
  refine own_step (f' := (mkF m 9 #[.val (.ref a1), .val (.int p2), .val (.ref a3)] [])) st2 ?_
  refine own_step (f' := (mkF m 10 #[.val (.ref a1), .val (.int p2), .val (.ref a3)] [(.ref a1)])) (fun _ k => XS.aloadN X2.here hx rfl (hb hby d6_9) rfl rfl k) ?_
  refine own_step (f' := (mkF m 11 #[.val (.ref a1), .val (.int p2), .val (.ref a3)] [(.ref a3), (.ref a1)])) (fun _ k => XS.aloadN X2.here hx rfl (hb hby d6_10) rfl rfl k) ?_
  obtain ⟨T3, h3, X3, e3, W3, st3⟩ := putF X2 hx hZ hown (host := "") (Or.inl (own_w35 hw)) Via.refl e2 (F_name_a1.other W2 (Or.inr (Jvm.RoadKit.slot_ne (Or.inr (own_w36 hw)) (Or.inr (own_w34 hw)) (by decide) own_fd_3 own_fd_2))) (E_a1.wr W2) (Or.inr ⟨(own_w36 hw), rfl, hnm⟩) (own_w1 hw) own_fd_3 rfl rfl (g := (mkF m 11 #[.val (.ref a1), .val (.int p2), .val (.ref a3)] [(.ref a3), (.ref a1)])) rfl rfl (hb hby d6_11)
  obtain ⟨Lo3, X3, N3⟩ : ∃ K, Stand p l e R6 s m #[(.ref a1), (.int p2), (.ref a3)] below meth c T3 K 0 0 ∧ Fr n0 K := ⟨_, X3, (Fr.snoc X3 N2 g_a1)⟩
  refine own_step (f' := (mkF m 14 #[.val (.ref a1), .val (.int p2), .val (.ref a3)] [])) st3 ?_
  refine own_out (v := none) X3 hlk (fun _ => rfl) (fun fs hr => X3.returnOut hx Bd.returns (hb hby d6_14) hr) (by decide) (by decide) ?_
  rw [e3]
  exact ⟨rfl, N3, (((Keep.refl h0 [a1]).wr W2 (Or.inl (List.mem_of_getElem? (i := 0) rfl))).wr W3 (Or.inl (List.mem_of_getElem? (i := 0) rfl))), ((E_a1.wr W2).wr W3)⟩
theorem d10_0 : decode jdk_52_method_21_code 0 = .ok (.iconst 0, 1) := by decide +kernel
theorem d10_1 : decode jdk_52_method_21_code 1 = .ok (.istore 5, 2) := by decide +kernel
theorem d10_3 : decode jdk_52_method_21_code 3 = .ok (.iload 5, 2) := by decide +kernel
theorem d10_5 : decode jdk_52_method_21_code 5 = .ok (.iload 4, 2) := by decide +kernel
theorem d10_7 : decode jdk_52_method_21_code 7 = .ok (.if_icmp .ge 37, 3) := by decide +kernel
theorem d10_10 : decode jdk_52_method_21_code 10 = .ok (.aload_n 0, 1) := by decide +kernel
theorem d10_11 : decode jdk_52_method_21_code 11 = .ok (.iload_n 1, 1) := by decide +kernel
theorem d10_12 : decode jdk_52_method_21_code 12 = .ok (.caload, 1) := by decide +kernel
theorem d10_13 : decode jdk_52_method_21_code 13 = .ok (.istore 6, 2) := by decide +kernel
theorem d10_15 : decode jdk_52_method_21_code 15 = .ok (.iload 6, 2) := by decide +kernel
theorem d10_17 : decode jdk_52_method_21_code 17 = .ok (.sipush 255, 3) := by decide +kernel
theorem d10_20 : decode jdk_52_method_21_code 20 = .ok (.if_icmp .le 6, 3) := by decide +kernel
theorem d10_26 : decode jdk_52_method_21_code 26 = .ok (.aload_n 2, 1) := by decide +kernel
theorem d10_27 : decode jdk_52_method_21_code 27 = .ok (.iload_n 3, 1) := by decide +kernel
theorem d10_28 : decode jdk_52_method_21_code 28 = .ok (.iload 6, 2) := by decide +kernel
theorem d10_30 : decode jdk_52_method_21_code 30 = .ok (.i2b, 1) := by decide +kernel
theorem d10_31 : decode jdk_52_method_21_code 31 = .ok (.bastore, 1) := by decide +kernel
theorem d10_32 : decode jdk_52_method_21_code 32 = .ok (.iinc 1 1, 3) := by decide +kernel
theorem d10_35 : decode jdk_52_method_21_code 35 = .ok (.iinc 3 1, 3) := by decide +kernel
theorem d10_38 : decode jdk_52_method_21_code 38 = .ok (.iinc 5 1, 3) := by decide +kernel
theorem d10_41 : decode jdk_52_method_21_code 41 = .ok (.goto (-38), 3) := by decide +kernel
theorem d10_44 : decode jdk_52_method_21_code 44 = .ok (.iload 4, 2) := by decide +kernel
theorem d10_46 : decode jdk_52_method_21_code 46 = .ok (.ireturn, 1) := by decide +kernel
theorem pn_3 : plainName "java/lang/StringUTF16" = true := by first | (simp [plainName, overriddenIn]; done) | decide +kernel
theorem ef_10 (m : MethodId) (x0 : Addr) (x1 : Int32) (x2 : Addr) (x3 : Int32) (x4 : Int32) : entryFrame m #[(.ref x0), (.int x1), (.ref x2), (.int x3), (.int x4)] 7 = mkF m 0 #[.val (.ref x0), .val (.int x1), .val (.ref x2), .val (.int x3), .val (.int x4), .unset, .unset] [] := by first | (simp [entryFrame, mkF, argsToLocals, Value.category]; done) | rfl
def Q10 (Z : State) (a1 : Addr) (a3 : Addr) (kc : ClassId) (x : Int32) (kb : ClassId) (h0 : Heap) (n0 : Nat) (v : Option Value) (h : Heap) (L : List Loc) : Prop := v = some (.int (1 : Int32)) ∧ Fr n0 L ∧ Keep h0 h [a3] ∧ Arv Z h a3 kb .byte (1 : Int32) [(.int (nar .byte (x.toInt8.toInt32)))] (.int (0 : Int32))
abbrev R10 : Room := { frames := 0, cells := 0, slots := 0, locals := 0 }
set_option maxRecDepth 65536 in
set_option maxHeartbeats 40000000 in
theorem rm10 (l : Launch) (Z : State) (a0 : Array Value) (hw : ∀ d ∈ tables_1, d.before a0 Z = true) (ws : List Jvm.Cond) (a1 : Addr) (a3 : Addr) (kc : ClassId) (x : Int32) (kb : ClassId) (h0 : Heap) (n0 : Nat) (Z0 : n0 ≤ h0.size) (V_a1 : Arv Z h0 a1 kc .char (1 : Int32) [(.int x)] (.int (0 : Int32))) (V_a3 : Arv Z h0 a3 kb .byte (1 : Int32) [(.int (0 : Int32))] (.int (0 : Int32))) (g_a3 : n0 ≤ a3) (ne_a1_a3 : a1 ≠ a3) (hq : ¬ (255 : Int32) < x) :
    MetFree l (⟨"java/lang/StringUTF16", "compress", "([CI[BII)I"⟩ : MethodName) (head1 (Jvm.Cond.code (⟨"java/lang/StringUTF16", "compress", "([CI[BII)I"⟩ : MethodName) jdk_52_method_21_code 7 (some .int) :: ws) R10) (fun a U => a = #[(.ref a1), (.int (0 : Int32)), (.ref a3), (.int (0 : Int32)), (.int (1 : Int32))] ∧ Z.Warmed39 U.vm ∧ U.heap = h0) (fun _ _ _ _ _ => True) (fun _ U o U' => ∃ v L, o = .returned v ∧ Q10 Z a1 a3 kc x kb h0 n0 v U'.heap L ∧ FrameEnd U o U' L R10.cells R10.slots) := by
  refine MetFree.of_bodySF (plainFor_of_name pn_3) hisR ?_
  intro p e s m args below meth c s₁ Bd hml0 hP hK
  obtain ⟨rfl, hZ, hh⟩ := hP
  have hx := Bd.exec
  have hby := Bd.bytes
  have hlk : meth.locks = false := BodyLoose.notSynchronized Bd
  have hml : c.maxLocals = 7 := hml0
  have hown : s.vm.findClass "java/lang/StringUTF16" = some m.cls := findClass_of_methodNamed Bd.named
  have hnm := (name_of_methodNamed Bd.named Bd.method).1
  have X0 : Stand p l e R10 s m #[(.ref a1), (.int (0 : Int32)), (.ref a3), (.int (0 : Int32)), (.int (1 : Int32))] below meth c s₁ [] 0 0 := Stand.of_body Bd
  have e0 : s₁.heap = h0 := by rw [← hh, Bd.state]; rfl
  have N0 := Fr.nil n0
  show own_Goes p e below s (Q10 Z a1 a3 kc x kb h0 n0) R10.cells R10.slots s₁ (entryFrame m #[(.ref a1), (.int (0 : Int32)), (.ref a3), (.int (0 : Int32)), (.int (1 : Int32))] 7)
  rw [ef_10 m a1 (0 : Int32) a3 (0 : Int32) (1 : Int32)]
  refine own_step (f' := (mkF m 1 #[.val (.ref a1), .val (.int (0 : Int32)), .val (.ref a3), .val (.int (0 : Int32)), .val (.int (1 : Int32)), .unset, .unset] [(.int (0 : Int32))])) (fun _ k => XS.iconst X0.here hx rfl (hb hby d10_0) k) ?_
  refine own_step (f' := (mkF m 3 #[.val (.ref a1), .val (.int (0 : Int32)), .val (.ref a3), .val (.int (0 : Int32)), .val (.int (1 : Int32)), .val (.int (0 : Int32)), .unset] [])) (fun _ k => XS.istore X0.here hx rfl (hb hby d10_1) rfl (l' := #[.val (.ref a1), .val (.int (0 : Int32)), .val (.ref a3), .val (.int (0 : Int32)), .val (.int (1 : Int32)), .val (.int (0 : Int32)), .unset]) rfl k) ?_
  refine own_step (f' := (mkF m 5 #[.val (.ref a1), .val (.int (0 : Int32)), .val (.ref a3), .val (.int (0 : Int32)), .val (.int (1 : Int32)), .val (.int (0 : Int32)), .unset] [(.int (0 : Int32))])) (fun _ k => XS.iload X0.here hx rfl (hb hby d10_3) rfl k) ?_
  refine own_step (f' := (mkF m 7 #[.val (.ref a1), .val (.int (0 : Int32)), .val (.ref a3), .val (.int (0 : Int32)), .val (.int (1 : Int32)), .val (.int (0 : Int32)), .unset] [(.int (1 : Int32)), (.int (0 : Int32))])) (fun _ k => XS.iload X0.here hx rfl (hb hby d10_5) rfl k) ?_
  refine own_step (f' := (mkF m 10 #[.val (.ref a1), .val (.int (0 : Int32)), .val (.ref a3), .val (.int (0 : Int32)), .val (.int (1 : Int32)), .val (.int (0 : Int32)), .unset] [])) (fun _ k => XS.icmpNo X0.here hx rfl (hb hby d10_7) rfl (tlt (by decide : ((0 : Int32) < (1 : Int32)))).2.1 k) ?_
  refine own_step (f' := (mkF m 11 #[.val (.ref a1), .val (.int (0 : Int32)), .val (.ref a3), .val (.int (0 : Int32)), .val (.int (1 : Int32)), .val (.int (0 : Int32)), .unset] [(.ref a1)])) (fun _ k => XS.aloadN X0.here hx rfl (hb hby d10_10) rfl rfl k) ?_
  refine own_step (f' := (mkF m 12 #[.val (.ref a1), .val (.int (0 : Int32)), .val (.ref a3), .val (.int (0 : Int32)), .val (.int (1 : Int32)), .val (.int (0 : Int32)), .unset] [(.int (0 : Int32)), (.ref a1)])) (fun _ k => XS.iloadN X0.here hx rfl (hb hby d10_11) rfl k) ?_
  obtain ⟨cl1, Ar1, qa1, Sa1, Na1, Ha1, Ga1⟩ := id (V_a1)
  have hin2 : ¬ ((0 : Int32) < 0 ∨ cl1.slots.size ≤ ((0 : Int32)).toNatClampNeg) := inb_of Sa1 ⟨by decide, by decide⟩
  refine own_step (f' := (mkF m 13 #[.val (.ref a1), .val (.int (0 : Int32)), .val (.ref a3), .val (.int (0 : Int32)), .val (.int (1 : Int32)), .val (.int (0 : Int32)), .unset] [(.int x)])) (fun _ k => X0.caload hx (j := (0 : Int32)) (v := (.int x)) (by rw [e0]; exact Ar1.1) (State.isArrayOf_alike hZ.alike Ar1.2.1) Ar1.2.2 hin2 (Ha1.at hin2 rfl) (g := (mkF m 12 #[.val (.ref a1), .val (.int (0 : Int32)), .val (.ref a3), .val (.int (0 : Int32)), .val (.int (1 : Int32)), .val (.int (0 : Int32)), .unset] [(.int (0 : Int32)), (.ref a1)])) rfl rfl (hb hby d10_12) _ k) ?_
  refine own_step (f' := (mkF m 15 #[.val (.ref a1), .val (.int (0 : Int32)), .val (.ref a3), .val (.int (0 : Int32)), .val (.int (1 : Int32)), .val (.int (0 : Int32)), .val (.int x)] [])) (fun _ k => XS.istore X0.here hx rfl (hb hby d10_13) rfl (l' := #[.val (.ref a1), .val (.int (0 : Int32)), .val (.ref a3), .val (.int (0 : Int32)), .val (.int (1 : Int32)), .val (.int (0 : Int32)), .val (.int x)]) rfl k) ?_
  refine own_step (f' := (mkF m 17 #[.val (.ref a1), .val (.int (0 : Int32)), .val (.ref a3), .val (.int (0 : Int32)), .val (.int (1 : Int32)), .val (.int (0 : Int32)), .val (.int x)] [(.int x)])) (fun _ k => XS.iload X0.here hx rfl (hb hby d10_15) rfl k) ?_
  refine own_step (f' := (mkF m 20 #[.val (.ref a1), .val (.int (0 : Int32)), .val (.ref a3), .val (.int (0 : Int32)), .val (.int (1 : Int32)), .val (.int (0 : Int32)), .val (.int x)] [(.int (255 : Int32)), (.int x)])) (fun _ k => XS.sipush X0.here hx rfl (hb hby d10_17) k) ?_
  have hf20_3 : ¬ ((255 : Int32) < x) := hq
  refine own_step (f' := (mkF m 26 #[.val (.ref a1), .val (.int (0 : Int32)), .val (.ref a3), .val (.int (0 : Int32)), .val (.int (1 : Int32)), .val (.int (0 : Int32)), .val (.int x)] [])) (fun _ k => XS.icmpYes X0.here hx rfl (pc0 := 20) (pc' := 26) rfl (hb hby d10_20) rfl (flt hf20_3).2.2.2 (by decide) (by decide) k) ?_
  refine own_step (f' := (mkF m 27 #[.val (.ref a1), .val (.int (0 : Int32)), .val (.ref a3), .val (.int (0 : Int32)), .val (.int (1 : Int32)), .val (.int (0 : Int32)), .val (.int x)] [(.ref a3)])) (fun _ k => XS.aloadN X0.here hx rfl (hb hby d10_26) rfl rfl k) ?_
  refine own_step (f' := (mkF m 28 #[.val (.ref a1), .val (.int (0 : Int32)), .val (.ref a3), .val (.int (0 : Int32)), .val (.int (1 : Int32)), .val (.int (0 : Int32)), .val (.int x)] [(.int (0 : Int32)), (.ref a3)])) (fun _ k => XS.iloadN X0.here hx rfl (hb hby d10_27) rfl k) ?_
  refine own_step (f' := (mkF m 30 #[.val (.ref a1), .val (.int (0 : Int32)), .val (.ref a3), .val (.int (0 : Int32)), .val (.int (1 : Int32)), .val (.int (0 : Int32)), .val (.int x)] [(.int x), (.int (0 : Int32)), (.ref a3)])) (fun _ k => XS.iload X0.here hx rfl (hb hby d10_28) rfl k) ?_
  refine own_step (f' := (mkF m 31 #[.val (.ref a1), .val (.int (0 : Int32)), .val (.ref a3), .val (.int (0 : Int32)), .val (.int (1 : Int32)), .val (.int (0 : Int32)), .val (.int x)] [(.int (x.toInt8.toInt32)), (.int (0 : Int32)), (.ref a3)])) (fun _ k => XS.i2b X0.here hx rfl (hb hby d10_30) rfl k) ?_
  obtain ⟨cl4, Ar4, qa4, Sa4, Na4, Ha4, Ga4⟩ := id (V_a3)
  have hin5 : ¬ ((0 : Int32) < 0 ∨ cl4.slots.size ≤ ((0 : Int32)).toNatClampNeg) := inb_of Sa4 ⟨by decide, by decide⟩
  obtain ⟨T5, h5, X5, e5, W5, st5⟩ := stB X0 hx hZ e0 Ar4 (j := (0 : Int32)) hin5 (g := (mkF m 31 #[.val (.ref a1), .val (.int (0 : Int32)), .val (.ref a3), .val (.int (0 : Int32)), .val (.int (1 : Int32)), .val (.int (0 : Int32)), .val (.int x)] [(.int (x.toInt8.toInt32)), (.int (0 : Int32)), (.ref a3)])) rfl rfl (hb hby d10_31)
  have V5 : Arv Z h5 a3 kb .byte (1 : Int32) [(.int (nar .byte (x.toInt8.toInt32)))] (.int (0 : Int32)) := Arv.set Ar4 qa4 Sa4 Na4 Ha4 Ga4 (fits_nar_byte _) W5 0 rfl (Nat.le_of_ble_eq_true rfl)
  obtain ⟨Lo5, X5, N5⟩ : ∃ K, Stand p l e R10 s m #[(.ref a1), (.int (0 : Int32)), (.ref a3), (.int (0 : Int32)), (.int (1 : Int32))] below meth c T5 K 0 0 ∧ Fr n0 K := ⟨_, X5, (Fr.snoc X5 N0 g_a3)⟩
  refine own_step (f' := (mkF m 32 #[.val (.ref a1), .val (.int (0 : Int32)), .val (.ref a3), .val (.int (0 : Int32)), .val (.int (1 : Int32)), .val (.int (0 : Int32)), .val (.int x)] [])) st5 ?_
  refine own_step (f' := (mkF m 35 #[.val (.ref a1), .val (.int (1 : Int32)), .val (.ref a3), .val (.int (0 : Int32)), .val (.int (1 : Int32)), .val (.int (0 : Int32)), .val (.int x)] [])) (fun _ k => XS.iinc X5.here hx rfl (hb hby d10_32) rfl (l' := #[.val (.ref a1), .val (.int (1 : Int32)), .val (.ref a3), .val (.int (0 : Int32)), .val (.int (1 : Int32)), .val (.int (0 : Int32)), .val (.int x)]) rfl k) ?_
  refine own_step (f' := (mkF m 38 #[.val (.ref a1), .val (.int (1 : Int32)), .val (.ref a3), .val (.int (1 : Int32)), .val (.int (1 : Int32)), .val (.int (0 : Int32)), .val (.int x)] [])) (fun _ k => XS.iinc X5.here hx rfl (hb hby d10_35) rfl (l' := #[.val (.ref a1), .val (.int (1 : Int32)), .val (.ref a3), .val (.int (1 : Int32)), .val (.int (1 : Int32)), .val (.int (0 : Int32)), .val (.int x)]) rfl k) ?_
  refine own_step (f' := (mkF m 41 #[.val (.ref a1), .val (.int (1 : Int32)), .val (.ref a3), .val (.int (1 : Int32)), .val (.int (1 : Int32)), .val (.int (1 : Int32)), .val (.int x)] [])) (fun _ k => XS.iinc X5.here hx rfl (hb hby d10_38) rfl (l' := #[.val (.ref a1), .val (.int (1 : Int32)), .val (.ref a3), .val (.int (1 : Int32)), .val (.int (1 : Int32)), .val (.int (1 : Int32)), .val (.int x)]) rfl k) ?_
  refine own_step (f' := (mkF m 3 #[.val (.ref a1), .val (.int (1 : Int32)), .val (.ref a3), .val (.int (1 : Int32)), .val (.int (1 : Int32)), .val (.int (1 : Int32)), .val (.int x)] [])) (fun _ k => XS.goto X5.here hx rfl (pc0 := 41) (pc' := 3) rfl (hb hby d10_41) (by decide) (by decide) k) ?_
  refine own_step (f' := (mkF m 5 #[.val (.ref a1), .val (.int (1 : Int32)), .val (.ref a3), .val (.int (1 : Int32)), .val (.int (1 : Int32)), .val (.int (1 : Int32)), .val (.int x)] [(.int (1 : Int32))])) (fun _ k => XS.iload X5.here hx rfl (hb hby d10_3) rfl k) ?_
  refine own_step (f' := (mkF m 7 #[.val (.ref a1), .val (.int (1 : Int32)), .val (.ref a3), .val (.int (1 : Int32)), .val (.int (1 : Int32)), .val (.int (1 : Int32)), .val (.int x)] [(.int (1 : Int32)), (.int (1 : Int32))])) (fun _ k => XS.iload X5.here hx rfl (hb hby d10_5) rfl k) ?_
  refine own_step (f' := (mkF m 44 #[.val (.ref a1), .val (.int (1 : Int32)), .val (.ref a3), .val (.int (1 : Int32)), .val (.int (1 : Int32)), .val (.int (1 : Int32)), .val (.int x)] [])) (fun _ k => XS.icmpYes X5.here hx rfl (pc0 := 7) (pc' := 44) rfl (hb hby d10_7) rfl (flt (by decide : ¬ ((1 : Int32) < (1 : Int32)))).2.1 (by decide) (by decide) k) ?_
  refine own_step (f' := (mkF m 46 #[.val (.ref a1), .val (.int (1 : Int32)), .val (.ref a3), .val (.int (1 : Int32)), .val (.int (1 : Int32)), .val (.int (1 : Int32)), .val (.int x)] [(.int (1 : Int32))])) (fun _ k => XS.iload X5.here hx rfl (hb hby d10_44) rfl k) ?_
  refine own_out (v := some (.int (1 : Int32))) X5 hlk (fun h => by rw [Bd.returns] at h; cases h) (fun fs hr => retOut X5 hx Bd.returns rfl (Or.inl ⟨rfl, Or.inl rfl, _, rfl⟩) (hb hby d10_46) hr) (by decide) (by decide) ?_
  rw [e5]
  exact ⟨rfl, N5, ((Keep.refl h0 [a3]).wr W5 (Or.inl (List.mem_of_getElem? (i := 0) rfl))), V5⟩
theorem own_w50 {a0 Z} (hw : own_HW a0 Z) : (Cond.methodLink "java/lang/StringUTF16" (115 : Nat) ⟨"java/lang/StringUTF16", "compress", "([CI[BII)I"⟩).before a0 Z = true := own_at hw 50 rfl
theorem own_w52 {a0 Z} (hw : own_HW a0 Z) : (Cond.code ⟨"java/lang/StringUTF16", "compress", "([CI[BII)I"⟩ jdk_52_method_21_code (7 : Nat) (some FieldType.int)).before a0 Z = true := own_at hw 52 rfl
theorem own_w48 {a0 Z} (hw : own_HW a0 Z) : (Cond.initialized "java/lang/StringUTF16").before a0 Z = true := own_at hw 48 rfl
theorem pd_3 : parseMethodDescriptor "([CI[BII)I" = some ⟨[(.array .char), .int, (.array .byte), .int, .int], some .int⟩ := by decide +kernel
theorem own_w51 {a0 Z} (hw : own_HW a0 Z) : (Cond.static ⟨"java/lang/StringUTF16", "compress", "([CI[BII)I"⟩).before a0 Z = true := own_at hw 51 rfl
theorem d9_0 : decode jdk_52_method_16_code 0 = .ok (.iload_n 2, 1) := by decide +kernel
theorem d9_1 : decode jdk_52_method_16_code 1 = .ok (.newarray .byte, 2) := by decide +kernel
theorem d9_3 : decode jdk_52_method_16_code 3 = .ok (.astore_n 3, 1) := by decide +kernel
theorem d9_4 : decode jdk_52_method_16_code 4 = .ok (.aload_n 0, 1) := by decide +kernel
theorem d9_5 : decode jdk_52_method_16_code 5 = .ok (.iload_n 1, 1) := by decide +kernel
theorem d9_6 : decode jdk_52_method_16_code 6 = .ok (.aload_n 3, 1) := by decide +kernel
theorem d9_7 : decode jdk_52_method_16_code 7 = .ok (.iconst 0, 1) := by decide +kernel
theorem d9_8 : decode jdk_52_method_16_code 8 = .ok (.iload_n 2, 1) := by decide +kernel
theorem d9_9 : decode jdk_52_method_16_code 9 = .ok (.invokestatic 115, 3) := by decide +kernel
theorem d9_12 : decode jdk_52_method_16_code 12 = .ok (.istore 4, 2) := by decide +kernel
theorem d9_14 : decode jdk_52_method_16_code 14 = .ok (.iload 4, 2) := by decide +kernel
theorem d9_16 : decode jdk_52_method_16_code 16 = .ok (.iload_n 2, 1) := by decide +kernel
theorem d9_17 : decode jdk_52_method_16_code 17 = .ok (.if_icmp .eq 40, 3) := by decide +kernel
theorem d9_57 : decode jdk_52_method_16_code 57 = .ok (.aload_n 3, 1) := by decide +kernel
theorem d9_58 : decode jdk_52_method_16_code 58 = .ok (.areturn, 1) := by decide +kernel
theorem ef_9 (m : MethodId) (x0 : Addr) (x1 : Int32) (x2 : Int32) : entryFrame m #[(.ref x0), (.int x1), (.int x2)] 6 = mkF m 0 #[.val (.ref x0), .val (.int x1), .val (.int x2), .unset, .unset, .unset] [] := by first | (simp [entryFrame, mkF, argsToLocals, Value.category]; done) | rfl
def Q9 (Z : State) (a1 : Addr) (kc : ClassId) (x : Int32) (h0 : Heap) (n0 : Nat) (v : Option Value) (h : Heap) (L : List Loc) : Prop := ∃ b : Addr, v = some (.ref b) ∧ n0 ≤ b ∧ h0.size ≤ b ∧ Fr n0 L ∧ Keep h0 h [] ∧ ∃ k, Arv Z h b k .byte (1 : Int32) [(.int (nar .byte (x.toInt8.toInt32)))] (.int (0 : Int32))
abbrev R9 : Room := { frames := 1, cells := 1, slots := 1, locals := 18 }
set_option maxRecDepth 65536 in
set_option maxHeartbeats 40000000 in
theorem rm9 (l : Launch) (Z : State) (a0 : Array Value) (hw : ∀ d ∈ tables_1, d.before a0 Z = true) (ws : List Jvm.Cond) (a1 : Addr) (kc : ClassId) (x : Int32) (h0 : Heap) (n0 : Nat) (Z0 : n0 ≤ h0.size) (V_a1 : Arv Z h0 a1 kc .char (1 : Int32) [(.int x)] (.int (0 : Int32))) (hq : ¬ (255 : Int32) < x) :
    MetFree l (⟨"java/lang/StringUTF16", "compress", "([CII)[B"⟩ : MethodName) (head1 (Jvm.Cond.code (⟨"java/lang/StringUTF16", "compress", "([CII)[B"⟩ : MethodName) jdk_52_method_16_code 6 (some (.array .byte)) :: ws) R9) (fun a U => a = #[(.ref a1), (.int (0 : Int32)), (.int (1 : Int32))] ∧ Z.Warmed39 U.vm ∧ U.heap = h0) (fun _ _ _ _ _ => True) (fun _ U o U' => ∃ v L, o = .returned v ∧ Q9 Z a1 kc x h0 n0 v U'.heap L ∧ FrameEnd U o U' L R9.cells R9.slots) := by
  refine MetFree.of_bodySF (plainFor_of_name pn_3) hisR ?_
  intro p e s m args below meth c s₁ Bd hml0 hP hK
  obtain ⟨rfl, hZ, hh⟩ := hP
  have hx := Bd.exec
  have hby := Bd.bytes
  have hlk : meth.locks = false := BodyLoose.notSynchronized Bd
  have hml : c.maxLocals = 6 := hml0
  have hown : s.vm.findClass "java/lang/StringUTF16" = some m.cls := findClass_of_methodNamed Bd.named
  have hnm := (name_of_methodNamed Bd.named Bd.method).1
  have X0 : Stand p l e R9 s m #[(.ref a1), (.int (0 : Int32)), (.int (1 : Int32))] below meth c s₁ [] 0 0 := Stand.of_body Bd
  have e0 : s₁.heap = h0 := by rw [← hh, Bd.state]; rfl
  have N0 := Fr.nil n0
  show own_Goes p e below s (Q9 Z a1 kc x h0 n0) R9.cells R9.slots s₁ (entryFrame m #[(.ref a1), (.int (0 : Int32)), (.int (1 : Int32))] 6)
  rw [ef_9 m a1 (0 : Int32) (1 : Int32)]
  refine own_step (f' := (mkF m 1 #[.val (.ref a1), .val (.int (0 : Int32)), .val (.int (1 : Int32)), .unset, .unset, .unset] [(.int (1 : Int32))])) (fun _ k => XS.iloadN X0.here hx rfl (hb hby d9_0) rfl k) ?_
  obtain ⟨T1, h1, k1, X1, e1, E1, A1, st1⟩ := newP X0 hx hZ (aty := .byte) (own_w17 hw) e0 (g := (mkF m 1 #[.val (.ref a1), .val (.int (0 : Int32)), .val (.int (1 : Int32)), .unset, .unset, .unset] [(.int (1 : Int32))])) rfl (hb hby d9_1) rfl (by decide) (cap := 1) (by decide) (by decide) (by decide) (by decide)
  obtain ⟨b1, g1⟩ : ∃ z, z = h0.size := ⟨_, rfl⟩
  rw [← g1] at A1 st1
  have ne_a1_b1 : a1 ≠ b1 := Nat.ne_of_lt (Nat.lt_of_lt_of_le V_a1.lt (Nat.le_of_eq g1.symm))
  have g_b1 : n0 ≤ b1 := Nat.le_trans Z0 (Nat.le_of_eq g1.symm)
  have sz_b1 : h0.size ≤ b1 := Nat.le_trans (Keep.refl h0 []).1 (Nat.le_of_eq g1.symm)
  have V_b1 : Arv Z h1 b1 k1 .byte (1 : Int32) [(.int (0 : Int32))] (.int (0 : Int32)) := (Arv.new A1 (by decide)).pad (pad_rep [] (.int (0 : Int32)) 1)
  refine own_step (f' := (mkF m 3 #[.val (.ref a1), .val (.int (0 : Int32)), .val (.int (1 : Int32)), .unset, .unset, .unset] [(.ref b1)])) st1 ?_
  refine own_step (f' := (mkF m 4 #[.val (.ref a1), .val (.int (0 : Int32)), .val (.int (1 : Int32)), .val (.ref b1), .unset, .unset] [])) (fun _ k => XS.astoreN X1.here hx rfl (hb hby d9_3) rfl rfl (l' := #[.val (.ref a1), .val (.int (0 : Int32)), .val (.int (1 : Int32)), .val (.ref b1), .unset, .unset]) rfl k) ?_
  refine own_step (f' := (mkF m 5 #[.val (.ref a1), .val (.int (0 : Int32)), .val (.int (1 : Int32)), .val (.ref b1), .unset, .unset] [(.ref a1)])) (fun _ k => XS.aloadN X1.here hx rfl (hb hby d9_4) rfl rfl k) ?_
  refine own_step (f' := (mkF m 6 #[.val (.ref a1), .val (.int (0 : Int32)), .val (.int (1 : Int32)), .val (.ref b1), .unset, .unset] [(.int (0 : Int32)), (.ref a1)])) (fun _ k => XS.iloadN X1.here hx rfl (hb hby d9_5) rfl k) ?_
  refine own_step (f' := (mkF m 7 #[.val (.ref a1), .val (.int (0 : Int32)), .val (.int (1 : Int32)), .val (.ref b1), .unset, .unset] [(.ref b1), (.int (0 : Int32)), (.ref a1)])) (fun _ k => XS.aloadN X1.here hx rfl (hb hby d9_6) rfl rfl k) ?_
  refine own_step (f' := (mkF m 8 #[.val (.ref a1), .val (.int (0 : Int32)), .val (.int (1 : Int32)), .val (.ref b1), .unset, .unset] [(.int (0 : Int32)), (.ref b1), (.int (0 : Int32)), (.ref a1)])) (fun _ k => XS.iconst X1.here hx rfl (hb hby d9_7) k) ?_
  refine own_step (f' := (mkF m 9 #[.val (.ref a1), .val (.int (0 : Int32)), .val (.int (1 : Int32)), .val (.ref b1), .unset, .unset] [(.int (1 : Int32)), (.int (0 : Int32)), (.ref b1), (.int (0 : Int32)), (.ref a1)])) (fun _ k => XS.iloadN X1.here hx rfl (hb hby d9_8) rfl k) ?_
  have hp2_hq : ¬ (255 : Int32) < x := hq
  have Zq2 : n0 ≤ h1.size := (Nat.le_trans Z0 E1.1)
  obtain ⟨_, _, ⟨T2, L2, k2, n2⟩, -, X2, ⟨Lc2, hQ2, l2, y2, z2⟩, st2⟩ := Jvm.LawKit.callS X1 hx (y := (⟨"java/lang/StringUTF16", "compress", "([CI[BII)I"⟩ : MethodName)) hown (mvT hZ (own_w50 hw)) (mvT hZ (own_w51 hw)) (mvT hZ (own_w48 hw)) (mvT hZ (own_w52 hw)) (by decide) (backOf (W := 0) (rm10 l Z a0 hw [] a1 b1 kc x k1 h1 n0 Zq2 (V_a1.ext E1) V_b1 g_b1 ne_a1_b1 hp2_hq) hZ (own_w52 hw) (own_w48 hw) (by decide) (by decide)) (g := (mkF m 9 #[.val (.ref a1), .val (.int (0 : Int32)), .val (.int (1 : Int32)), .val (.ref b1), .unset, .unset] [(.int (1 : Int32)), (.int (0 : Int32)), (.ref b1), (.int (0 : Int32)), (.ref a1)])) rfl (by rw [hml]; rfl) (argsL := [(.ref a1), (.int (0 : Int32)), (.ref b1), (.int (0 : Int32)), (.int (1 : Int32))]) (rest := []) (lenOf pd_3 rfl) rfl (by show 2 * 0 + _ ≤ _; exact Nat.le_of_eq rfl) (hb hby d9_9) (fun _ _ => ⟨rfl, e1, (by decide : 1 + 0 ≤ _), (by decide : 1 + 0 ≤ _)⟩)
  dsimp only [Pt.U, Pt.locs, Pt.cells, Pt.slots] at X2 l2 y2 z2 st2 hQ2
  subst l2 y2 z2
  obtain ⟨rfl, Nq2, K2, P2_0⟩ := hQ2
  obtain ⟨Lo2, X2, N2⟩ : ∃ K, Stand p l e R9 s m #[(.ref a1), (.int (0 : Int32)), (.int (1 : Int32))] below meth c T2 K 1 1 ∧ Fr n0 K := ⟨_, X2, (Fr.app N0 Nq2)⟩
  refine own_step (f' := (mkF m 12 #[.val (.ref a1), .val (.int (0 : Int32)), .val (.int (1 : Int32)), .val (.ref b1), .unset, .unset] [(.int (1 : Int32))])) st2 ?_
  refine own_step (f' := (mkF m 14 #[.val (.ref a1), .val (.int (0 : Int32)), .val (.int (1 : Int32)), .val (.ref b1), .val (.int (1 : Int32)), .unset] [])) (fun _ k => XS.istore X2.here hx rfl (hb hby d9_12) rfl (l' := #[.val (.ref a1), .val (.int (0 : Int32)), .val (.int (1 : Int32)), .val (.ref b1), .val (.int (1 : Int32)), .unset]) rfl k) ?_
  refine own_step (f' := (mkF m 16 #[.val (.ref a1), .val (.int (0 : Int32)), .val (.int (1 : Int32)), .val (.ref b1), .val (.int (1 : Int32)), .unset] [(.int (1 : Int32))])) (fun _ k => XS.iload X2.here hx rfl (hb hby d9_14) rfl k) ?_
  refine own_step (f' := (mkF m 17 #[.val (.ref a1), .val (.int (0 : Int32)), .val (.int (1 : Int32)), .val (.ref b1), .val (.int (1 : Int32)), .unset] [(.int (1 : Int32)), (.int (1 : Int32))])) (fun _ k => XS.iloadN X2.here hx rfl (hb hby d9_16) rfl k) ?_
  refine own_step (f' := (mkF m 57 #[.val (.ref a1), .val (.int (0 : Int32)), .val (.int (1 : Int32)), .val (.ref b1), .val (.int (1 : Int32)), .unset] [])) (fun _ k => XS.icmpYes X2.here hx rfl (pc0 := 17) (pc' := 57) rfl (hb hby d9_17) rfl (teq (by decide : ((1 : Int32) = (1 : Int32)))).1 (by decide) (by decide) k) ?_
  refine own_step (f' := (mkF m 58 #[.val (.ref a1), .val (.int (0 : Int32)), .val (.int (1 : Int32)), .val (.ref b1), .val (.int (1 : Int32)), .unset] [(.ref b1)])) (fun _ k => XS.aloadN X2.here hx rfl (hb hby d9_57) rfl rfl k) ?_
  refine own_out (v := some (.ref b1)) X2 hlk (fun h => by rw [Bd.returns] at h; cases h) (fun fs hr => retOut X2 hx Bd.returns rfl (Or.inr (Or.inr (Or.inr (Or.inr ⟨rfl, rfl, rfl⟩)))) (hb hby d9_58) hr) (by decide) (by decide) ?_
  exact ⟨b1, rfl, g_b1, sz_b1, N2, (((Keep.refl h0 []).ext E1).trans K2 (allS (Or.inr sz_b1) all0)), ⟨_, P2_0⟩⟩
theorem d11_0 : decode jdk_52_method_15_code 0 = .ok (.iload_n 1, 1) := by decide +kernel
theorem d11_1 : decode jdk_52_method_15_code 1 = .ok (.aload_n 0, 1) := by decide +kernel
theorem d11_2 : decode jdk_52_method_15_code 2 = .ok (.arraylength, 1) := by decide +kernel
theorem d11_3 : decode jdk_52_method_15_code 3 = .ok (.isub, 1) := by decide +kernel
theorem d11_4 : decode jdk_52_method_15_code 4 = .ok (.bipush 31, 2) := by decide +kernel
theorem d11_6 : decode jdk_52_method_15_code 6 = .ok (.iushr, 1) := by decide +kernel
theorem d11_7 : decode jdk_52_method_15_code 7 = .ok (.i2b, 1) := by decide +kernel
theorem d11_8 : decode jdk_52_method_15_code 8 = .ok (.ireturn, 1) := by decide +kernel
theorem ef_11 (m : MethodId) (x0 : Addr) (x1 : Int32) : entryFrame m #[(.ref x0), (.int x1)] 2 = mkF m 0 #[.val (.ref x0), .val (.int x1)] [] := by first | (simp [entryFrame, mkF, argsToLocals, Value.category]; done) | rfl
def Q11 (Z : State) (a1 : Addr) (kb : ClassId) (bs : List Value) (h0 : Heap) (n0 : Nat) (v : Option Value) (h : Heap) (L : List Loc) : Prop := v = some (.int (0 : Int32)) ∧ L = [] ∧ h = h0
abbrev R11 : Room := { frames := 0, cells := 0, slots := 0, locals := 0 }
set_option maxRecDepth 65536 in
set_option maxHeartbeats 40000000 in
theorem rm11 (l : Launch) (Z : State) (a0 : Array Value) (hw : ∀ d ∈ tables_1, d.before a0 Z = true) (ws : List Jvm.Cond) (a1 : Addr) (kb : ClassId) (bs : List Value) (h0 : Heap) (n0 : Nat) (Z0 : n0 ≤ h0.size) (V_a1 : Arv Z h0 a1 kb .byte (1 : Int32) bs (.int (0 : Int32))) :
    MetFree l (⟨"java/lang/StringUTF16", "coderFromArrayLen", "([BI)B"⟩ : MethodName) (head1 (Jvm.Cond.code (⟨"java/lang/StringUTF16", "coderFromArrayLen", "([BI)B"⟩ : MethodName) jdk_52_method_15_code 2 (some .byte) :: ws) R11) (fun a U => a = #[(.ref a1), (.int (1 : Int32))] ∧ Z.Warmed39 U.vm ∧ U.heap = h0) (fun _ _ _ _ _ => True) (fun _ U o U' => ∃ v L, o = .returned v ∧ Q11 Z a1 kb bs h0 n0 v U'.heap L ∧ FrameEnd U o U' L R11.cells R11.slots) := by
  refine MetFree.of_bodySF (plainFor_of_name pn_3) hisR ?_
  intro p e s m args below meth c s₁ Bd hml0 hP hK
  obtain ⟨rfl, hZ, hh⟩ := hP
  have hx := Bd.exec
  have hby := Bd.bytes
  have hlk : meth.locks = false := BodyLoose.notSynchronized Bd
  have hml : c.maxLocals = 2 := hml0
  have hown : s.vm.findClass "java/lang/StringUTF16" = some m.cls := findClass_of_methodNamed Bd.named
  have hnm := (name_of_methodNamed Bd.named Bd.method).1
  have X0 : Stand p l e R11 s m #[(.ref a1), (.int (1 : Int32))] below meth c s₁ [] 0 0 := Stand.of_body Bd
  have e0 : s₁.heap = h0 := by rw [← hh, Bd.state]; rfl
  have N0 := Fr.nil n0
  show own_Goes p e below s (Q11 Z a1 kb bs h0 n0) R11.cells R11.slots s₁ (entryFrame m #[(.ref a1), (.int (1 : Int32))] 2)
  rw [ef_11 m a1 (1 : Int32)]
  refine own_step (f' := (mkF m 1 #[.val (.ref a1), .val (.int (1 : Int32))] [(.int (1 : Int32))])) (fun _ k => XS.iloadN X0.here hx rfl (hb hby d11_0) rfl k) ?_
  refine own_step (f' := (mkF m 2 #[.val (.ref a1), .val (.int (1 : Int32))] [(.ref a1), (.int (1 : Int32))])) (fun _ k => XS.aloadN X0.here hx rfl (hb hby d11_1) rfl rfl k) ?_
  obtain ⟨cl1, Ar1, qa1, Sa1, Na1, Ha1, Ga1⟩ := id (V_a1)
  refine own_step (f' := (mkF m 3 #[.val (.ref a1), .val (.int (1 : Int32))] [(.int (1 : Int32)), (.int (1 : Int32))])) (fun _ k => X0.arraylength hx (by rw [e0]; exact Ar1.1) (State.isArrayOf_alike hZ.alike Ar1.2.1) (g := (mkF m 2 #[.val (.ref a1), .val (.int (1 : Int32))] [(.ref a1), (.int (1 : Int32))])) rfl rfl (hb hby d11_2) _ (by rw [len_of Sa1 Na1]; exact k)) ?_
  refine own_step (f' := (mkF m 4 #[.val (.ref a1), .val (.int (1 : Int32))] [(.int (0 : Int32))])) (fun _ k => XS.isub X0.here hx rfl (hb hby d11_3) rfl k) ?_
  refine own_step (f' := (mkF m 6 #[.val (.ref a1), .val (.int (1 : Int32))] [(.int (31 : Int32)), (.int (0 : Int32))])) (fun _ k => XS.bipush X0.here hx rfl (hb hby d11_4) k) ?_
  refine own_step (f' := (mkF m 7 #[.val (.ref a1), .val (.int (1 : Int32))] [(.int (((0 : Int32).toUInt32 >>> ((31 : Int32) &&& 31).toUInt32).toInt32))])) (fun _ k => XS.iushr X0.here hx rfl (hb hby d11_6) rfl k) ?_
  refine own_step (f' := (mkF m 8 #[.val (.ref a1), .val (.int (1 : Int32))] [(.int ((((0 : Int32).toUInt32 >>> ((31 : Int32) &&& 31).toUInt32).toInt32).toInt8.toInt32))])) (fun _ k => XS.i2b X0.here hx rfl (hb hby d11_7) rfl k) ?_
  refine own_out (v := some (.int (nar .byte ((((0 : Int32).toUInt32 >>> ((31 : Int32) &&& 31).toUInt32).toInt32).toInt8.toInt32)))) X0 hlk (fun h => by rw [Bd.returns] at h; cases h) (fun fs hr => retN X0 hx (t := .byte) Bd.returns (by simp) (hb hby d11_8) hr) (by decide) (by decide) ?_
  rw [e0]
  exact ⟨(congrArg (fun z => some (Value.int z)) (by decide)), rfl, rfl⟩
theorem own_w46 {a0 Z} (hw : own_HW a0 Z) : (Cond.methodLink "java/lang/String" (177 : Nat) ⟨"java/lang/StringUTF16", "compress", "([CII)[B"⟩).before a0 Z = true := own_at hw 46 rfl
theorem own_w49 {a0 Z} (hw : own_HW a0 Z) : (Cond.code ⟨"java/lang/StringUTF16", "compress", "([CII)[B"⟩ jdk_52_method_16_code (6 : Nat) (some (FieldType.array FieldType.byte))).before a0 Z = true := own_at hw 49 rfl
theorem pd_4 : parseMethodDescriptor "([CII)[B" = some ⟨[(.array .char), .int, .int], some (.array .byte)⟩ := by decide +kernel
theorem own_w47 {a0 Z} (hw : own_HW a0 Z) : (Cond.static ⟨"java/lang/StringUTF16", "compress", "([CII)[B"⟩).before a0 Z = true := own_at hw 47 rfl
theorem own_w53 {a0 Z} (hw : own_HW a0 Z) : (Cond.methodLink "java/lang/String" (47 : Nat) ⟨"java/lang/StringUTF16", "coderFromArrayLen", "([BI)B"⟩).before a0 Z = true := own_at hw 53 rfl
theorem own_w55 {a0 Z} (hw : own_HW a0 Z) : (Cond.code ⟨"java/lang/StringUTF16", "coderFromArrayLen", "([BI)B"⟩ jdk_52_method_15_code (2 : Nat) (some FieldType.byte)).before a0 Z = true := own_at hw 55 rfl
theorem pd_5 : parseMethodDescriptor "([BI)B" = some ⟨[(.array .byte), .int], some .byte⟩ := by decide +kernel
theorem own_w54 {a0 Z} (hw : own_HW a0 Z) : (Cond.static ⟨"java/lang/StringUTF16", "coderFromArrayLen", "([BI)B"⟩).before a0 Z = true := own_at hw 54 rfl
theorem d8_0 : decode jdk_42_method_149_code 0 = .ok (.aload_n 0, 1) := by decide +kernel
theorem d8_1 : decode jdk_42_method_149_code 1 = .ok (.invokespecial 1, 3) := by decide +kernel
theorem d8_4 : decode jdk_42_method_149_code 4 = .ok (.iload_n 3, 1) := by decide +kernel
theorem d8_5 : decode jdk_42_method_149_code 5 = .ok (.ifCond .ne 22, 3) := by decide +kernel
theorem d8_27 : decode jdk_42_method_149_code 27 = .ok (.getstatic 38, 3) := by decide +kernel
theorem d8_30 : decode jdk_42_method_149_code 30 = .ok (.ifCond .eq 28, 3) := by decide +kernel
theorem d8_33 : decode jdk_42_method_149_code 33 = .ok (.aload_n 1, 1) := by decide +kernel
theorem d8_34 : decode jdk_42_method_149_code 34 = .ok (.iload_n 2, 1) := by decide +kernel
theorem d8_35 : decode jdk_42_method_149_code 35 = .ok (.iload_n 3, 1) := by decide +kernel
theorem d8_36 : decode jdk_42_method_149_code 36 = .ok (.invokestatic 177, 3) := by decide +kernel
theorem d8_39 : decode jdk_42_method_149_code 39 = .ok (.astore 5, 2) := by decide +kernel
theorem d8_41 : decode jdk_42_method_149_code 41 = .ok (.aload_n 0, 1) := by decide +kernel
theorem d8_42 : decode jdk_42_method_149_code 42 = .ok (.aload 5, 2) := by decide +kernel
theorem d8_44 : decode jdk_42_method_149_code 44 = .ok (.iload_n 3, 1) := by decide +kernel
theorem d8_45 : decode jdk_42_method_149_code 45 = .ok (.invokestatic 47, 3) := by decide +kernel
theorem d8_48 : decode jdk_42_method_149_code 48 = .ok (.putfield 15, 3) := by decide +kernel
theorem d8_51 : decode jdk_42_method_149_code 51 = .ok (.aload_n 0, 1) := by decide +kernel
theorem d8_52 : decode jdk_42_method_149_code 52 = .ok (.aload 5, 2) := by decide +kernel
theorem d8_54 : decode jdk_42_method_149_code 54 = .ok (.putfield 9, 3) := by decide +kernel
theorem d8_57 : decode jdk_42_method_149_code 57 = .ok (.return_, 1) := by decide +kernel
theorem ef_8 (m : MethodId) (x0 : Addr) (x1 : Addr) (x2 : Int32) (x3 : Int32) : entryFrame m #[(.ref x0), (.ref x1), (.int x2), (.int x3), .null] 6 = mkF m 0 #[.val (.ref x0), .val (.ref x1), .val (.int x2), .val (.int x3), .val .null, .unset] [] := by first | (simp [entryFrame, mkF, argsToLocals, Value.category]; done) | rfl
def Q8 (Z : State) (a1 : Addr) (a2 : Addr) (u1 : Value) (u2 : Value) (kc : ClassId) (x : Int32) (cz : Int32) (h0 : Heap) (n0 : Nat) (v : Option Value) (h : Heap) (L : List Loc) : Prop := v = none ∧ Fr n0 L ∧ Keep h0 h [a1] ∧ Exa Z h a1 "java/lang/String"
abbrev R8 : Room := { frames := 2, cells := 1, slots := 1, locals := 35 }
set_option maxRecDepth 65536 in
set_option maxHeartbeats 40000000 in
theorem rm8 (l : Launch) (Z : State) (a0 : Array Value) (hw : ∀ d ∈ tables_1, d.before a0 Z = true) (ws : List Jvm.Cond) (a1 : Addr) (a2 : Addr) (u1 : Value) (u2 : Value) (kc : ClassId) (x : Int32) (cz : Int32) (h0 : Heap) (n0 : Nat) (Z0 : n0 ≤ h0.size) (E_a1 : Exa Z h0 a1 "java/lang/String") (F_value_a1 : Fld Z h0 a1 "java/lang/String" "value" "[B" u1) (F_coder_a1 : Fld Z h0 a1 "java/lang/String" "coder" "B" u2) (g_a1 : n0 ≤ a1) (V_a2 : Arv Z h0 a2 kc .char (1 : Int32) [(.int x)] (.int (0 : Int32))) (ne_a2_a1 : a2 ≠ a1) (S_COMPACT_STRINGS : Sta Z h0 "java/lang/String" "COMPACT_STRINGS" "Z" (.int cz)) (hcz : ¬ cz = (0 : Int32)) (hq : ¬ (255 : Int32) < x) :
    MetFree l (⟨"java/lang/String", "<init>", "([CIILjava/lang/Void;)V"⟩ : MethodName) (head1 (Jvm.Cond.code (⟨"java/lang/String", "<init>", "([CIILjava/lang/Void;)V"⟩ : MethodName) jdk_42_method_149_code 6 none :: ws) R8) (fun a U => a = #[(.ref a1), (.ref a2), (.int (0 : Int32)), (.int (1 : Int32)), .null] ∧ Z.Warmed39 U.vm ∧ U.heap = h0) (fun _ _ _ _ _ => True) (fun _ U o U' => ∃ v L, o = .returned v ∧ Q8 Z a1 a2 u1 u2 kc x cz h0 n0 v U'.heap L ∧ FrameEnd U o U' L R8.cells R8.slots) := by
  refine MetFree.of_bodySF (plainFor_of_name pn_1) hisR ?_
  intro p e s m args below meth c s₁ Bd hml0 hP hK
  obtain ⟨rfl, hZ, hh⟩ := hP
  have hx := Bd.exec
  have hby := Bd.bytes
  have hlk : meth.locks = false := BodyLoose.notSynchronized Bd
  have hml : c.maxLocals = 6 := hml0
  have hown : s.vm.findClass "java/lang/String" = some m.cls := findClass_of_methodNamed Bd.named
  have hnm := (name_of_methodNamed Bd.named Bd.method).1
  have X0 : Stand p l e R8 s m #[(.ref a1), (.ref a2), (.int (0 : Int32)), (.int (1 : Int32)), .null] below meth c s₁ [] 0 0 := Stand.of_body Bd
  have e0 : s₁.heap = h0 := by rw [← hh, Bd.state]; rfl
  have N0 := Fr.nil n0
  show own_Goes p e below s (Q8 Z a1 a2 u1 u2 kc x cz h0 n0) R8.cells R8.slots s₁ (entryFrame m #[(.ref a1), (.ref a2), (.int (0 : Int32)), (.int (1 : Int32)), .null] 6)
  rw [ef_8 m a1 a2 (0 : Int32) (1 : Int32)]
  refine own_step (f' := (mkF m 1 #[.val (.ref a1), .val (.ref a2), .val (.int (0 : Int32)), .val (.int (1 : Int32)), .val .null, .unset] [(.ref a1)])) (fun _ k => XS.aloadN X0.here hx rfl (hb hby d8_0) rfl rfl k) ?_
  obtain ⟨T1, X1, e1, st1⟩ := initO X0 hx hZ hown (own_w22 hw) (own_w23 hw) (own_w24 hw) e0 (g := (mkF m 1 #[.val (.ref a1), .val (.ref a2), .val (.int (0 : Int32)), .val (.int (1 : Int32)), .val .null, .unset] [(.ref a1)])) rfl (by rw [hml]; rfl) rfl (hb hby d8_1) (by decide) (W := 0) (by show 2 * 0 + _ ≤ _; exact Nat.le_of_eq rfl) (by decide)
  refine own_step (f' := (mkF m 4 #[.val (.ref a1), .val (.ref a2), .val (.int (0 : Int32)), .val (.int (1 : Int32)), .val .null, .unset] [])) st1 ?_
  refine own_step (f' := (mkF m 5 #[.val (.ref a1), .val (.ref a2), .val (.int (0 : Int32)), .val (.int (1 : Int32)), .val .null, .unset] [(.int (1 : Int32))])) (fun _ k => XS.iloadN X1.here hx rfl (hb hby d8_4) rfl k) ?_
  refine own_step (f' := (mkF m 27 #[.val (.ref a1), .val (.ref a2), .val (.int (0 : Int32)), .val (.int (1 : Int32)), .val .null, .unset] [])) (fun _ k => XS.ifYes X1.here hx rfl (pc0 := 5) (pc' := 27) rfl (hb hby d8_5) rfl ((if0 _ _).trans (feq (by decide : ¬ ((1 : Int32) = (0 : Int32)))).2) (by decide) (by decide) k) ?_
  obtain ⟨T2, X2, e2, st2⟩ := getS2 X1 hx hZ hown (host := "") (Or.inl (own_w7 hw)) Via.refl e1 S_COMPACT_STRINGS (g := (mkF m 27 #[.val (.ref a1), .val (.ref a2), .val (.int (0 : Int32)), .val (.int (1 : Int32)), .val .null, .unset] [])) rfl (hb hby d8_27)
  refine own_step (f' := (mkF m 30 #[.val (.ref a1), .val (.ref a2), .val (.int (0 : Int32)), .val (.int (1 : Int32)), .val .null, .unset] [(.int cz)])) st2 ?_
  have hf30_3 : ¬ (cz = (0 : Int32)) := hcz
  refine own_step (f' := (mkF m 33 #[.val (.ref a1), .val (.ref a2), .val (.int (0 : Int32)), .val (.int (1 : Int32)), .val .null, .unset] [])) (fun _ k => XS.ifNo X2.here hx rfl (hb hby d8_30) rfl ((if0 _ _).trans (feq hf30_3).1) k) ?_
  refine own_step (f' := (mkF m 34 #[.val (.ref a1), .val (.ref a2), .val (.int (0 : Int32)), .val (.int (1 : Int32)), .val .null, .unset] [(.ref a2)])) (fun _ k => XS.aloadN X2.here hx rfl (hb hby d8_33) rfl rfl k) ?_
  refine own_step (f' := (mkF m 35 #[.val (.ref a1), .val (.ref a2), .val (.int (0 : Int32)), .val (.int (1 : Int32)), .val .null, .unset] [(.int (0 : Int32)), (.ref a2)])) (fun _ k => XS.iloadN X2.here hx rfl (hb hby d8_34) rfl k) ?_
  refine own_step (f' := (mkF m 36 #[.val (.ref a1), .val (.ref a2), .val (.int (0 : Int32)), .val (.int (1 : Int32)), .val .null, .unset] [(.int (1 : Int32)), (.int (0 : Int32)), (.ref a2)])) (fun _ k => XS.iloadN X2.here hx rfl (hb hby d8_35) rfl k) ?_
  have hp4_hq : ¬ (255 : Int32) < x := hq
  have Zq4 : n0 ≤ h0.size := Z0
  obtain ⟨_, _, ⟨T4, L4, k4, n4⟩, -, X4, ⟨Lc4, hQ4, l4, y4, z4⟩, st4⟩ := Jvm.LawKit.callS X2 hx (y := (⟨"java/lang/StringUTF16", "compress", "([CII)[B"⟩ : MethodName)) hown (mvT hZ (own_w46 hw)) (mvT hZ (own_w47 hw)) (mvT hZ (own_w48 hw)) (mvT hZ (own_w49 hw)) (by decide) (backOf (W := 0) (rm9 l Z a0 hw [] a2 kc x h0 n0 Zq4 V_a2 hp4_hq) hZ (own_w49 hw) (own_w48 hw) (by decide) (by decide)) (g := (mkF m 36 #[.val (.ref a1), .val (.ref a2), .val (.int (0 : Int32)), .val (.int (1 : Int32)), .val .null, .unset] [(.int (1 : Int32)), (.int (0 : Int32)), (.ref a2)])) rfl (by rw [hml]; rfl) (argsL := [(.ref a2), (.int (0 : Int32)), (.int (1 : Int32))]) (rest := []) (lenOf pd_4 rfl) rfl (by show 2 * 0 + _ ≤ _; exact Nat.le_of_eq rfl) (hb hby d8_36) (fun _ _ => ⟨rfl, e2, (by decide : 0 + 1 ≤ _), (by decide : 0 + 1 ≤ _)⟩)
  dsimp only [Pt.U, Pt.locs, Pt.cells, Pt.slots] at X4 l4 y4 z4 st4 hQ4
  subst l4 y4 z4
  obtain ⟨b4, rfl, g_b4, sq_b4, Nq4, K4, k4_0, P4_0⟩ := hQ4
  obtain ⟨Lo4, X4, N4⟩ : ∃ K, Stand p l e R8 s m #[(.ref a1), (.ref a2), (.int (0 : Int32)), (.int (1 : Int32)), .null] below meth c T4 K 1 1 ∧ Fr n0 K := ⟨_, X4, (Fr.app N0 Nq4)⟩
  have ne_a1_b4 : a1 ≠ b4 := Nat.ne_of_lt (Nat.lt_of_lt_of_le E_a1.lt sq_b4)
  have ne_a2_b4 : a2 ≠ b4 := Nat.ne_of_lt (Nat.lt_of_lt_of_le V_a2.lt sq_b4)
  have sz_b4 : h0.size ≤ b4 := Nat.le_trans (Keep.refl h0 [a1]).1 sq_b4
  refine own_step (f' := (mkF m 39 #[.val (.ref a1), .val (.ref a2), .val (.int (0 : Int32)), .val (.int (1 : Int32)), .val .null, .unset] [(.ref b4)])) st4 ?_
  refine own_step (f' := (mkF m 41 #[.val (.ref a1), .val (.ref a2), .val (.int (0 : Int32)), .val (.int (1 : Int32)), .val .null, .val (.ref b4)] [])) (fun _ k => XS.astore X4.here hx rfl (hb hby d8_39) rfl rfl (l' := #[.val (.ref a1), .val (.ref a2), .val (.int (0 : Int32)), .val (.int (1 : Int32)), .val .null, .val (.ref b4)]) rfl k) ?_
  refine own_step (f' := (mkF m 42 #[.val (.ref a1), .val (.ref a2), .val (.int (0 : Int32)), .val (.int (1 : Int32)), .val .null, .val (.ref b4)] [(.ref a1)])) (fun _ k => XS.aloadN X4.here hx rfl (hb hby d8_41) rfl rfl k) ?_
  refine own_step (f' := (mkF m 44 #[.val (.ref a1), .val (.ref a2), .val (.int (0 : Int32)), .val (.int (1 : Int32)), .val .null, .val (.ref b4)] [(.ref b4), (.ref a1)])) (fun _ k => XS.aload X4.here hx rfl (hb hby d8_42) rfl rfl k) ?_
  refine own_step (f' := (mkF m 45 #[.val (.ref a1), .val (.ref a2), .val (.int (0 : Int32)), .val (.int (1 : Int32)), .val .null, .val (.ref b4)] [(.int (1 : Int32)), (.ref b4), (.ref a1)])) (fun _ k => XS.iloadN X4.here hx rfl (hb hby d8_44) rfl k) ?_
  have Zq5 : n0 ≤ T4.heap.size := (Nat.le_trans Z0 K4.1)
  obtain ⟨_, _, ⟨T5, L5, k5, n5⟩, -, X5, ⟨Lc5, hQ5, l5, y5, z5⟩, st5⟩ := Jvm.LawKit.callS X4 hx (y := (⟨"java/lang/StringUTF16", "coderFromArrayLen", "([BI)B"⟩ : MethodName)) hown (mvT hZ (own_w53 hw)) (mvT hZ (own_w54 hw)) (mvT hZ (own_w48 hw)) (mvT hZ (own_w55 hw)) (by decide) (backOf (W := 1) (rm11 l Z a0 hw [] b4 k4_0 ([(.int (nar .byte (x.toInt8.toInt32)))]) T4.heap n0 Zq5 P4_0) hZ (own_w55 hw) (own_w48 hw) (by decide) (by decide)) (g := (mkF m 45 #[.val (.ref a1), .val (.ref a2), .val (.int (0 : Int32)), .val (.int (1 : Int32)), .val .null, .val (.ref b4)] [(.int (1 : Int32)), (.ref b4), (.ref a1)])) rfl (by rw [hml]; rfl) (argsL := [(.ref b4), (.int (1 : Int32))]) (rest := [(.ref a1)]) (lenOf pd_5 rfl) rfl (by show 2 * 0 + _ ≤ _; exact Nat.le_of_eq rfl) (hb hby d8_45) (fun _ _ => ⟨rfl, rfl, (by decide : 1 + 0 ≤ _), (by decide : 1 + 0 ≤ _)⟩)
  dsimp only [Pt.U, Pt.locs, Pt.cells, Pt.slots] at X5 l5 y5 z5 st5 hQ5
  subst l5 y5 z5
  obtain ⟨rfl, rfl, e5⟩ := hQ5
  try rw [List.append_nil] at X5
  refine own_step (f' := (mkF m 48 #[.val (.ref a1), .val (.ref a2), .val (.int (0 : Int32)), .val (.int (1 : Int32)), .val .null, .val (.ref b4)] [(.int (0 : Int32)), (.ref a1)])) st5 ?_
  obtain ⟨T6, h6, X6, e6, W6, st6⟩ := putFN X5 hx hZ hown (own_w27 hw) Via.refl e5 (F_coder_a1.keep K4 nin0) (E_a1.keep K4) (Or.inr ⟨(own_w28 hw), rfl, hnm⟩) (own_w13 hw) (v' := (.int (0 : Int32))) own_fd_1 rfl rfl (g := (mkF m 48 #[.val (.ref a1), .val (.ref a2), .val (.int (0 : Int32)), .val (.int (1 : Int32)), .val .null, .val (.ref b4)] [(.int (0 : Int32)), (.ref a1)])) rfl rfl (hb hby d8_48)
  obtain ⟨Lo6, X6, N6⟩ : ∃ K, Stand p l e R8 s m #[(.ref a1), (.ref a2), (.int (0 : Int32)), (.int (1 : Int32)), .null] below meth c T6 K 1 1 ∧ Fr n0 K := ⟨_, X6, (Fr.snoc X6 N4 g_a1)⟩
  refine own_step (f' := (mkF m 51 #[.val (.ref a1), .val (.ref a2), .val (.int (0 : Int32)), .val (.int (1 : Int32)), .val .null, .val (.ref b4)] [])) st6 ?_
  refine own_step (f' := (mkF m 52 #[.val (.ref a1), .val (.ref a2), .val (.int (0 : Int32)), .val (.int (1 : Int32)), .val .null, .val (.ref b4)] [(.ref a1)])) (fun _ k => XS.aloadN X6.here hx rfl (hb hby d8_51) rfl rfl k) ?_
  refine own_step (f' := (mkF m 54 #[.val (.ref a1), .val (.ref a2), .val (.int (0 : Int32)), .val (.int (1 : Int32)), .val .null, .val (.ref b4)] [(.ref b4), (.ref a1)])) (fun _ k => XS.aload X6.here hx rfl (hb hby d8_52) rfl rfl k) ?_
  obtain ⟨T7, h7, X7, e7, W7, st7⟩ := putF X6 hx hZ hown (host := "") (Or.inl (own_w25 hw)) Via.refl e6 ((F_value_a1.keep K4 nin0).other W6 (Or.inr (Jvm.RoadKit.slot_ne (Or.inr (own_w26 hw)) (Or.inr (own_w28 hw)) (by decide) own_fd_0 own_fd_1))) ((E_a1.keep K4).wr W6) (Or.inr ⟨(own_w26 hw), rfl, hnm⟩) (own_w13 hw) own_fd_0 rfl rfl (g := (mkF m 54 #[.val (.ref a1), .val (.ref a2), .val (.int (0 : Int32)), .val (.int (1 : Int32)), .val .null, .val (.ref b4)] [(.ref b4), (.ref a1)])) rfl rfl (hb hby d8_54)
  obtain ⟨Lo7, X7, N7⟩ : ∃ K, Stand p l e R8 s m #[(.ref a1), (.ref a2), (.int (0 : Int32)), (.int (1 : Int32)), .null] below meth c T7 K 1 1 ∧ Fr n0 K := ⟨_, X7, (Fr.snoc X7 N6 g_a1)⟩
  refine own_step (f' := (mkF m 57 #[.val (.ref a1), .val (.ref a2), .val (.int (0 : Int32)), .val (.int (1 : Int32)), .val .null, .val (.ref b4)] [])) st7 ?_
  refine own_out (v := none) X7 hlk (fun _ => rfl) (fun fs hr => X7.returnOut hx Bd.returns (hb hby d8_57) hr) (by decide) (by decide) ?_
  rw [e7]
  exact ⟨rfl, N7, ((((Keep.refl h0 [a1]).trans K4 all0).wr W6 (Or.inl (List.mem_of_getElem? (i := 0) rfl))).wr W7 (Or.inl (List.mem_of_getElem? (i := 0) rfl))), (((E_a1.keep K4).wr W6).wr W7)⟩
theorem own_w43 {a0 Z} (hw : own_HW a0 Z) : (Cond.methodLink "java/lang/String" (27 : Nat) ⟨"java/lang/String", "<init>", "([CIILjava/lang/Void;)V"⟩).before a0 Z = true := own_at hw 43 rfl
theorem own_w45 {a0 Z} (hw : own_HW a0 Z) : (Cond.code ⟨"java/lang/String", "<init>", "([CIILjava/lang/Void;)V"⟩ jdk_42_method_149_code (6 : Nat) none).before a0 Z = true := own_at hw 45 rfl
theorem pd_6 : parseMethodDescriptor "([CIILjava/lang/Void;)V" = some ⟨[(.array .char), .int, .int, (.object "java/lang/Void")], none⟩ := by decide +kernel
theorem own_w44 {a0 Z} (hw : own_HW a0 Z) : (Cond.instanceMethod ⟨"java/lang/String", "<init>", "([CIILjava/lang/Void;)V"⟩).before a0 Z = true := own_at hw 44 rfl
theorem d7_0 : decode jdk_42_method_3_code 0 = .ok (.aload_n 0, 1) := by decide +kernel
theorem d7_1 : decode jdk_42_method_3_code 1 = .ok (.aload_n 1, 1) := by decide +kernel
theorem d7_2 : decode jdk_42_method_3_code 2 = .ok (.iconst 0, 1) := by decide +kernel
theorem d7_3 : decode jdk_42_method_3_code 3 = .ok (.aload_n 1, 1) := by decide +kernel
theorem d7_4 : decode jdk_42_method_3_code 4 = .ok (.arraylength, 1) := by decide +kernel
theorem d7_5 : decode jdk_42_method_3_code 5 = .ok (.aconst_null, 1) := by decide +kernel
theorem d7_6 : decode jdk_42_method_3_code 6 = .ok (.invokespecial 27, 3) := by decide +kernel
theorem d7_9 : decode jdk_42_method_3_code 9 = .ok (.return_, 1) := by decide +kernel
theorem ef_7 (m : MethodId) (x0 : Addr) (x1 : Addr) : entryFrame m #[(.ref x0), (.ref x1)] 2 = mkF m 0 #[.val (.ref x0), .val (.ref x1)] [] := by first | (simp [entryFrame, mkF, argsToLocals, Value.category]; done) | rfl
def Q7 (Z : State) (a1 : Addr) (a2 : Addr) (u1 : Value) (u2 : Value) (kc : ClassId) (x : Int32) (cz : Int32) (h0 : Heap) (n0 : Nat) (v : Option Value) (h : Heap) (L : List Loc) : Prop := v = none ∧ Fr n0 L ∧ Keep h0 h [a1] ∧ Exa Z h a1 "java/lang/String"
abbrev R7 : Room := { frames := 3, cells := 1, slots := 1, locals := 52 }
set_option maxRecDepth 65536 in
set_option maxHeartbeats 40000000 in
theorem rm7 (l : Launch) (Z : State) (a0 : Array Value) (hw : ∀ d ∈ tables_1, d.before a0 Z = true) (ws : List Jvm.Cond) (a1 : Addr) (a2 : Addr) (u1 : Value) (u2 : Value) (kc : ClassId) (x : Int32) (cz : Int32) (h0 : Heap) (n0 : Nat) (Z0 : n0 ≤ h0.size) (E_a1 : Exa Z h0 a1 "java/lang/String") (F_value_a1 : Fld Z h0 a1 "java/lang/String" "value" "[B" u1) (F_coder_a1 : Fld Z h0 a1 "java/lang/String" "coder" "B" u2) (g_a1 : n0 ≤ a1) (V_a2 : Arv Z h0 a2 kc .char (1 : Int32) [(.int x)] (.int (0 : Int32))) (ne_a2_a1 : a2 ≠ a1) (S_COMPACT_STRINGS : Sta Z h0 "java/lang/String" "COMPACT_STRINGS" "Z" (.int cz)) (hcz : ¬ cz = (0 : Int32)) (hq : ¬ (255 : Int32) < x) :
    MetFree l (⟨"java/lang/String", "<init>", "([C)V"⟩ : MethodName) (head1 (Jvm.Cond.code (⟨"java/lang/String", "<init>", "([C)V"⟩ : MethodName) jdk_42_method_3_code 2 none :: ws) R7) (fun a U => a = #[(.ref a1), (.ref a2)] ∧ Z.Warmed39 U.vm ∧ U.heap = h0) (fun _ _ _ _ _ => True) (fun _ U o U' => ∃ v L, o = .returned v ∧ Q7 Z a1 a2 u1 u2 kc x cz h0 n0 v U'.heap L ∧ FrameEnd U o U' L R7.cells R7.slots) := by
  refine MetFree.of_bodySF (plainFor_of_name pn_1) hisR ?_
  intro p e s m args below meth c s₁ Bd hml0 hP hK
  obtain ⟨rfl, hZ, hh⟩ := hP
  have hx := Bd.exec
  have hby := Bd.bytes
  have hlk : meth.locks = false := BodyLoose.notSynchronized Bd
  have hml : c.maxLocals = 2 := hml0
  have hown : s.vm.findClass "java/lang/String" = some m.cls := findClass_of_methodNamed Bd.named
  have hnm := (name_of_methodNamed Bd.named Bd.method).1
  have X0 : Stand p l e R7 s m #[(.ref a1), (.ref a2)] below meth c s₁ [] 0 0 := Stand.of_body Bd
  have e0 : s₁.heap = h0 := by rw [← hh, Bd.state]; rfl
  have N0 := Fr.nil n0
  show own_Goes p e below s (Q7 Z a1 a2 u1 u2 kc x cz h0 n0) R7.cells R7.slots s₁ (entryFrame m #[(.ref a1), (.ref a2)] 2)
  rw [ef_7 m a1 a2]
  refine own_step (f' := (mkF m 1 #[.val (.ref a1), .val (.ref a2)] [(.ref a1)])) (fun _ k => XS.aloadN X0.here hx rfl (hb hby d7_0) rfl rfl k) ?_
  refine own_step (f' := (mkF m 2 #[.val (.ref a1), .val (.ref a2)] [(.ref a2), (.ref a1)])) (fun _ k => XS.aloadN X0.here hx rfl (hb hby d7_1) rfl rfl k) ?_
  refine own_step (f' := (mkF m 3 #[.val (.ref a1), .val (.ref a2)] [(.int (0 : Int32)), (.ref a2), (.ref a1)])) (fun _ k => XS.iconst X0.here hx rfl (hb hby d7_2) k) ?_
  refine own_step (f' := (mkF m 4 #[.val (.ref a1), .val (.ref a2)] [(.ref a2), (.int (0 : Int32)), (.ref a2), (.ref a1)])) (fun _ k => XS.aloadN X0.here hx rfl (hb hby d7_3) rfl rfl k) ?_
  obtain ⟨cl1, Ar1, qa1, Sa1, Na1, Ha1, Ga1⟩ := id (V_a2)
  refine own_step (f' := (mkF m 5 #[.val (.ref a1), .val (.ref a2)] [(.int (1 : Int32)), (.int (0 : Int32)), (.ref a2), (.ref a1)])) (fun _ k => X0.arraylength hx (by rw [e0]; exact Ar1.1) (State.isArrayOf_alike hZ.alike Ar1.2.1) (g := (mkF m 4 #[.val (.ref a1), .val (.ref a2)] [(.ref a2), (.int (0 : Int32)), (.ref a2), (.ref a1)])) rfl rfl (hb hby d7_4) _ (by rw [len_of Sa1 Na1]; exact k)) ?_
  refine own_step (f' := (mkF m 6 #[.val (.ref a1), .val (.ref a2)] [.null, (.int (1 : Int32)), (.int (0 : Int32)), (.ref a2), (.ref a1)])) (fun _ k => XS.aconstNull X0.here hx rfl (hb hby d7_5) k) ?_
  have hp2_hcz : ¬ cz = (0 : Int32) := hcz
  have hp2_hq : ¬ (255 : Int32) < x := hq
  have Zq2 : n0 ≤ h0.size := Z0
  obtain ⟨_, _, ⟨T2, L2, k2, n2⟩, -, X2, ⟨Lc2, hQ2, l2, y2, z2⟩, st2⟩ := X0.specialBack hx (y := (⟨"java/lang/String", "<init>", "([CIILjava/lang/Void;)V"⟩ : MethodName)) rfl hown (mvT hZ (own_w43 hw)) (mvT hZ (own_w44 hw)) (mvT hZ (own_w45 hw)) (by decide) (backOf (W := 0) (rm8 l Z a0 hw [] a1 a2 u1 u2 kc x cz h0 n0 Zq2 E_a1 F_value_a1 F_coder_a1 g_a1 V_a2 ne_a2_a1 S_COMPACT_STRINGS hp2_hcz hp2_hq) hZ (own_w45 hw) (own_w5 hw) (by decide) (by decide)) (g := (mkF m 6 #[.val (.ref a1), .val (.ref a2)] [.null, (.int (1 : Int32)), (.int (0 : Int32)), (.ref a2), (.ref a1)])) rfl (by rw [hml]; rfl) (Steps.refl _) (a := a1) (argsL := [(.ref a2), (.int (0 : Int32)), (.int (1 : Int32)), .null]) (rest := []) (lenOf pd_6 rfl) rfl (by show 2 * 0 + _ ≤ _; exact Nat.le_of_eq rfl) (hb hby d7_6) (fun _ _ => ⟨rfl, e0, (by decide : 0 + 1 ≤ _), (by decide : 0 + 1 ≤ _)⟩)
  dsimp only [Pt.U, Pt.locs, Pt.cells, Pt.slots] at X2 l2 y2 z2 st2 hQ2
  subst l2 y2 z2
  obtain ⟨rfl, Nq2, K2, P2_0⟩ := hQ2
  obtain ⟨Lo2, X2, N2⟩ : ∃ K, Stand p l e R7 s m #[(.ref a1), (.ref a2)] below meth c T2 K 1 1 ∧ Fr n0 K := ⟨_, X2, (Fr.app N0 Nq2)⟩
  refine own_jump (f' := (mkF m 9 #[.val (.ref a1), .val (.ref a2)] [])) st2 ?_
  refine own_out (v := none) X2 hlk (fun _ => rfl) (fun fs hr => X2.returnOut hx Bd.returns (hb hby d7_9) hr) (by decide) (by decide) ?_
  exact ⟨rfl, N2, ((Keep.refl h0 [a1]).trans K2 (allS (Or.inl (List.mem_of_getElem? (i := 0) rfl)) all0)), P2_0⟩
section OwnOpt
variable {Z : State} {h h' : Heap} {x : Value} {C : String}
def own_Opt (Z : State) (h : Heap) (x : Value) (C : String) : Prop := x = .null ∨ ∃ a, x = .ref a ∧ Exa Z h a C
theorem own_Opt.isR (A : own_Opt Z h x C) : x.isRef = true := by rcases A with rfl | ⟨a, rfl, -⟩ <;> rfl
theorem own_Opt.fit {D : String} (A : own_Opt Z h x C) : fits (.object D) x = true := by rcases A with rfl | ⟨a, rfl, -⟩ <;> rfl
theorem own_Opt.ext (E : Ext h h') (A : own_Opt Z h x C) : own_Opt Z h' x C := A.imp id fun ⟨a, q, r⟩ => ⟨a, q, r.ext E⟩
theorem own_Opt.wr {a : Addr} {sl : Nat} {v : Value} (W : Wr h h' a sl v) (A : own_Opt Z h x C) : own_Opt Z h' x C := A.imp id fun ⟨a, q, r⟩ => ⟨a, q, r.wr W⟩
theorem own_Opt.keep {ws : List Addr} (A : own_Opt Z h x C) (K : Keep h h' ws) : own_Opt Z h' x C := A.imp id fun ⟨a, q, r⟩ => ⟨a, q, r.keep K⟩
theorem own_Opt.sto {a : Addr} {cl : Cell} {k : ClassId} {ty : FieldType} (A : own_Opt Z h x C) (B : Arr Z h a cl ty) (q : cl.cls = k) (O : Ovr Z k C) : Sto Z h a x := by
  rcases A with rfl | ⟨y, rfl, E⟩
  · exact Or.inl rfl
  · exact Sto.ofV B q O (Ins.self E)
end OwnOpt
theorem own_w64 {a0 Z} (hw : own_HW a0 Z) : (Cond.methodLink "com/example/valbonne/valbonne/codec/AttributeCodings" (1 : Nat) ⟨"java/lang/Object", "<init>", "()V"⟩).before a0 Z = true := own_at hw 64 rfl
theorem own_w65 {a0 Z} (hw : own_HW a0 Z) : (Cond.classLink "com/example/valbonne/valbonne/codec/AttributeCodings" (9 : Nat) "com/example/valbonne/valbonne/codec/AttributeCodings$Coding").before a0 Z = true := own_at hw 65 rfl
theorem own_w66 {a0 Z} (hw : own_HW a0 Z) : (Cond.arrayOver (FieldType.object "com/example/valbonne/valbonne/codec/AttributeCodings$Coding")).before a0 Z = true := own_at hw 66 rfl
theorem own_w67 {a0 Z} (hw : own_HW a0 Z) : (Cond.fieldLink "com/example/valbonne/valbonne/codec/AttributeCodings" (11 : Nat) "com/example/valbonne/valbonne/codec/AttributeCodings" "kept" "[Lcom/example/valbonne/valbonne/codec/AttributeCodings$Coding;").before a0 Z = true := own_at hw 67 rfl
theorem own_w68 {a0 Z} (hw : own_HW a0 Z) : (Cond.laysFinal "com/example/valbonne/valbonne/codec/AttributeCodings" "com/example/valbonne/valbonne/codec/AttributeCodings" "kept" "[Lcom/example/valbonne/valbonne/codec/AttributeCodings$Coding;").before a0 Z = true := own_at hw 68 rfl
theorem own_w59 {a0 Z} (hw : own_HW a0 Z) : (Cond.instantiable "com/example/valbonne/valbonne/codec/AttributeCodings" (4 : Nat)).before a0 Z = true := own_at hw 59 rfl
theorem own_fd_4 : parseFieldDescriptor "[Lcom/example/valbonne/valbonne/codec/AttributeCodings$Coding;" = some (.array (.object "com/example/valbonne/valbonne/codec/AttributeCodings$Coding")) := by decide +kernel
theorem own_w146 {a0 Z} (hw : own_HW a0 Z) : (Cond.lays "com/example/valbonne/valbonne/codec/AttributeCodings" "com/example/valbonne/valbonne/codec/AttributeCodings" "oldest" "I").before a0 Z = true := own_at hw 146 rfl
theorem own_w127 {a0 Z} (hw : own_HW a0 Z) : (Cond.lays "com/example/valbonne/valbonne/codec/AttributeCodings" "com/example/valbonne/valbonne/codec/AttributeCodings" "reading" "Lcom/example/valbonne/valbonne/codec/AttributeCodings$Coding;").before a0 Z = true := own_at hw 127 rfl
theorem own_fd_5 : parseFieldDescriptor "Lcom/example/valbonne/valbonne/codec/AttributeCodings$Coding;" = some (.object "com/example/valbonne/valbonne/codec/AttributeCodings$Coding") := by decide +kernel
theorem own_w125 {a0 Z} (hw : own_HW a0 Z) : (Cond.lays "com/example/valbonne/valbonne/codec/AttributeCodings" "com/example/valbonne/valbonne/codec/AttributeCodings" "readFrom" "J").before a0 Z = true := own_at hw 125 rfl
theorem own_fd_6 : parseFieldDescriptor "J" = some .long := by decide +kernel
theorem d12_0 : decode prog_11_method_1_code 0 = .ok (.aload_n 0, 1) := by decide +kernel
theorem d12_1 : decode prog_11_method_1_code 1 = .ok (.invokespecial 1, 3) := by decide +kernel
theorem d12_4 : decode prog_11_method_1_code 4 = .ok (.aload_n 0, 1) := by decide +kernel
theorem d12_5 : decode prog_11_method_1_code 5 = .ok (.bipush 16, 2) := by decide +kernel
theorem d12_7 : decode prog_11_method_1_code 7 = .ok (.anewarray 9, 3) := by decide +kernel
theorem d12_10 : decode prog_11_method_1_code 10 = .ok (.putfield 11, 3) := by decide +kernel
theorem d12_13 : decode prog_11_method_1_code 13 = .ok (.return_, 1) := by decide +kernel
theorem pn_4 : plainName "com/example/valbonne/valbonne/codec/AttributeCodings" = true := by first | (simp [plainName, overriddenIn]; done) | decide +kernel
theorem ef_12 (m : MethodId) (x0 : Addr) : entryFrame m #[(.ref x0)] 1 = mkF m 0 #[.val (.ref x0)] [] := by first | (simp [entryFrame, mkF, argsToLocals, Value.category]; done) | rfl
def Q12 (Z : State) (a1 : Addr) (u1 : Value) (h0 : Heap) (n0 : Nat) (v : Option Value) (h : Heap) (L : List Loc) : Prop := ∃ y1 : Addr, ∃ ky1 : ClassId, v = none ∧ Fr n0 L ∧ Keep h0 h [a1] ∧ n0 ≤ y1 ∧ h0.size ≤ y1 ∧ Fld Z h a1 own_AC "kept" "[Lcom/example/valbonne/valbonne/codec/AttributeCodings$Coding;" (.ref y1) ∧ Fld Z h a1 own_AC "oldest" "I" (.int (0 : Int32)) ∧ Fld Z h a1 own_AC "reading" "Lcom/example/valbonne/valbonne/codec/AttributeCodings$Coding;" .null ∧ Fld Z h a1 own_AC "readFrom" "J" (.long (0 : Int64)) ∧ Arv Z h y1 ky1 (.object own_CO) (16 : Int32) [.null, .null, .null, .null, .null, .null, .null, .null, .null, .null, .null, .null, .null, .null, .null, .null] .null ∧ Ovr Z ky1 own_CO
abbrev R12 : Room := { frames := 1, cells := 1, slots := 16, locals := 12 }
set_option maxRecDepth 65536 in
set_option maxHeartbeats 40000000 in
theorem rm12 (l : Launch) (Z : State) (a0 : Array Value) (hw : ∀ d ∈ tables_1, d.before a0 Z = true) (ws : List Jvm.Cond) (a1 : Addr) (u1 : Value) (h0 : Heap) (n0 : Nat) (Z0 : n0 ≤ h0.size) (E_a1 : Exa Z h0 a1 own_AC) (g_a1 : n0 ≤ a1) (F_kept_a1 : Fld Z h0 a1 own_AC "kept" "[Lcom/example/valbonne/valbonne/codec/AttributeCodings$Coding;" u1) (F_oldest_a1 : Fld Z h0 a1 own_AC "oldest" "I" (.int (0 : Int32))) (F_reading_a1 : Fld Z h0 a1 own_AC "reading" "Lcom/example/valbonne/valbonne/codec/AttributeCodings$Coding;" .null) (F_readFrom_a1 : Fld Z h0 a1 own_AC "readFrom" "J" (.long (0 : Int64))) :
    MetFree l (⟨own_AC, "<init>", "()V"⟩ : MethodName) (head1 (Jvm.Cond.code (⟨own_AC, "<init>", "()V"⟩ : MethodName) prog_11_method_1_code 1 none :: ws) R12) (fun a U => a = #[(.ref a1)] ∧ Z.Warmed39 U.vm ∧ U.heap = h0) (fun _ _ _ _ _ => True) (fun _ U o U' => ∃ v L, o = .returned v ∧ Q12 Z a1 u1 h0 n0 v U'.heap L ∧ FrameEnd U o U' L R12.cells R12.slots) := by
  refine MetFree.of_bodySF (plainFor_of_name pn_4) hisR ?_
  intro p e s m args below meth c s₁ Bd hml0 hP hK
  obtain ⟨rfl, hZ, hh⟩ := hP
  have hx := Bd.exec
  have hby := Bd.bytes
  have hlk : meth.locks = false := BodyLoose.notSynchronized Bd
  have hml : c.maxLocals = 1 := hml0
  have hown : s.vm.findClass own_AC = some m.cls := findClass_of_methodNamed Bd.named
  have hnm := (name_of_methodNamed Bd.named Bd.method).1
  have X0 : Stand p l e R12 s m #[(.ref a1)] below meth c s₁ [] 0 0 := Stand.of_body Bd
  have e0 : s₁.heap = h0 := by rw [← hh, Bd.state]; rfl
  have N0 := Fr.nil n0
  show own_Goes p e below s (Q12 Z a1 u1 h0 n0) R12.cells R12.slots s₁ (entryFrame m #[(.ref a1)] 1)
  rw [ef_12 m a1]
  refine own_step (f' := (mkF m 1 #[.val (.ref a1)] [(.ref a1)])) (fun _ k => XS.aloadN X0.here hx rfl (hb hby d12_0) rfl rfl k) ?_
  obtain ⟨T1, X1, e1, st1⟩ := initO X0 hx hZ hown (own_w64 hw) (own_w23 hw) (own_w24 hw) e0 (g := (mkF m 1 #[.val (.ref a1)] [(.ref a1)])) rfl (by rw [hml]; rfl) rfl (hb hby d12_1) (by decide) (W := 0) (by show 2 * 0 + _ ≤ _; exact Nat.le_of_eq rfl) (by decide)
  refine own_step (f' := (mkF m 4 #[.val (.ref a1)] [])) st1 ?_
  refine own_step (f' := (mkF m 5 #[.val (.ref a1)] [(.ref a1)])) (fun _ k => XS.aloadN X1.here hx rfl (hb hby d12_4) rfl rfl k) ?_
  refine own_step (f' := (mkF m 7 #[.val (.ref a1)] [(.int (16 : Int32)), (.ref a1)])) (fun _ k => XS.bipush X1.here hx rfl (hb hby d12_5) k) ?_
  obtain ⟨T2, h2, k2, X2, e2, E2, A2, O2, st2⟩ := newR X1 hx hZ hown (own_w65 hw) (own_w66 hw) e1 (g := (mkF m 7 #[.val (.ref a1)] [(.int (16 : Int32)), (.ref a1)])) rfl (hb hby d12_7) rfl (by decide) (cap := 16) (by decide) (by decide) (by decide) (by decide)
  obtain ⟨b2, g2⟩ : ∃ z, z = h0.size := ⟨_, rfl⟩
  rw [← g2] at A2 st2
  have ne_a1_b2 : a1 ≠ b2 := Nat.ne_of_lt (Nat.lt_of_lt_of_le E_a1.lt (Nat.le_of_eq g2.symm))
  have g_b2 : n0 ≤ b2 := Nat.le_trans Z0 (Nat.le_of_eq g2.symm)
  have sz_b2 : h0.size ≤ b2 := Nat.le_trans (Keep.refl h0 [a1]).1 (Nat.le_of_eq g2.symm)
  have V_b2 : Arv Z h2 b2 k2 (.object own_CO) (16 : Int32) [.null, .null, .null, .null, .null, .null, .null, .null, .null, .null, .null, .null, .null, .null, .null, .null] .null := (Arv.new A2 (by decide)).pad (pad_rep [] .null 16)
  refine own_step (f' := (mkF m 10 #[.val (.ref a1)] [(.ref b2), (.ref a1)])) st2 ?_
  obtain ⟨T3, h3, X3, e3, W3, st3⟩ := putF X2 hx hZ hown (host := "") (Or.inl (own_w67 hw)) Via.refl e2 (F_kept_a1.ext E2) (E_a1.ext E2) (Or.inr ⟨(own_w68 hw), rfl, hnm⟩) (own_w59 hw) own_fd_4 rfl rfl (g := (mkF m 10 #[.val (.ref a1)] [(.ref b2), (.ref a1)])) rfl rfl (hb hby d12_10)
  obtain ⟨Lo3, X3, N3⟩ : ∃ K, Stand p l e R12 s m #[(.ref a1)] below meth c T3 K 1 16 ∧ Fr n0 K := ⟨_, X3, (Fr.snoc X3 N0 g_a1)⟩
  refine own_step (f' := (mkF m 13 #[.val (.ref a1)] [])) st3 ?_
  refine own_out (v := none) X3 hlk (fun _ => rfl) (fun fs hr => X3.returnOut hx Bd.returns (hb hby d12_13) hr) (by decide) (by decide) ?_
  rw [e3]
  exact ⟨b2, _, rfl, N3, (((Keep.refl h0 [a1]).ext E2).wr W3 (Or.inl (List.mem_of_getElem? (i := 0) rfl))), g_b2, sz_b2, ((F_kept_a1.ext E2).same W3), ((F_oldest_a1.ext E2).other W3 (Or.inr (Jvm.RoadKit.slot_ne (Or.inl (own_w146 hw)) (Or.inr (own_w68 hw)) (by decide) own_fd_2 own_fd_4))), ((F_reading_a1.ext E2).other W3 (Or.inr (Jvm.RoadKit.slot_ne (Or.inl (own_w127 hw)) (Or.inr (own_w68 hw)) (by decide) own_fd_5 own_fd_4))), ((F_readFrom_a1.ext E2).other W3 (Or.inr (Jvm.RoadKit.slot_ne (Or.inl (own_w125 hw)) (Or.inr (own_w68 hw)) (by decide) own_fd_6 own_fd_4))), (V_b2.other W3 (Ne.symm ne_a1_b2)), O2⟩
theorem own_w84 {a0 Z} (hw : own_HW a0 Z) : (Cond.methodLink "com/example/valbonne/valbonne/codec/OffsetNames" (1 : Nat) ⟨"java/lang/Object", "<init>", "()V"⟩).before a0 Z = true := own_at hw 84 rfl
theorem own_w85 {a0 Z} (hw : own_HW a0 Z) : (Cond.arrayClass FieldType.long).before a0 Z = true := own_at hw 85 rfl
theorem own_w86 {a0 Z} (hw : own_HW a0 Z) : (Cond.fieldLink "com/example/valbonne/valbonne/codec/OffsetNames" (7 : Nat) "com/example/valbonne/valbonne/codec/OffsetNames" "offsets" "[J").before a0 Z = true := own_at hw 86 rfl
theorem own_w87 {a0 Z} (hw : own_HW a0 Z) : (Cond.lays "com/example/valbonne/valbonne/codec/OffsetNames" "com/example/valbonne/valbonne/codec/OffsetNames" "offsets" "[J").before a0 Z = true := own_at hw 87 rfl
theorem own_w79 {a0 Z} (hw : own_HW a0 Z) : (Cond.instantiable "com/example/valbonne/valbonne/codec/OffsetNames" (3 : Nat)).before a0 Z = true := own_at hw 79 rfl
theorem own_fd_7 : parseFieldDescriptor "[J" = some (.array .long) := by decide +kernel
theorem own_w91 {a0 Z} (hw : own_HW a0 Z) : (Cond.lays "com/example/valbonne/valbonne/codec/OffsetNames" "com/example/valbonne/valbonne/codec/OffsetNames" "names" "[Lcom/example/valbonne/valbonne/codec/Name;").before a0 Z = true := own_at hw 91 rfl
theorem own_fd_8 : parseFieldDescriptor "[Lcom/example/valbonne/valbonne/codec/Name;" = some (.array (.object "com/example/valbonne/valbonne/codec/Name")) := by decide +kernel
theorem own_w88 {a0 Z} (hw : own_HW a0 Z) : (Cond.classLink "com/example/valbonne/valbonne/codec/OffsetNames" (13 : Nat) "com/example/valbonne/valbonne/codec/Name").before a0 Z = true := own_at hw 88 rfl
theorem own_w89 {a0 Z} (hw : own_HW a0 Z) : (Cond.arrayOver (FieldType.object "com/example/valbonne/valbonne/codec/Name")).before a0 Z = true := own_at hw 89 rfl
theorem own_w90 {a0 Z} (hw : own_HW a0 Z) : (Cond.fieldLink "com/example/valbonne/valbonne/codec/OffsetNames" (15 : Nat) "com/example/valbonne/valbonne/codec/OffsetNames" "names" "[Lcom/example/valbonne/valbonne/codec/Name;").before a0 Z = true := own_at hw 90 rfl
theorem d14_0 : decode prog_65_method_1_code 0 = .ok (.aload_n 0, 1) := by decide +kernel
theorem d14_1 : decode prog_65_method_1_code 1 = .ok (.invokespecial 1, 3) := by decide +kernel
theorem d14_4 : decode prog_65_method_1_code 4 = .ok (.aload_n 0, 1) := by decide +kernel
theorem d14_5 : decode prog_65_method_1_code 5 = .ok (.bipush 16, 2) := by decide +kernel
theorem d14_7 : decode prog_65_method_1_code 7 = .ok (.newarray .long, 2) := by decide +kernel
theorem d14_9 : decode prog_65_method_1_code 9 = .ok (.putfield 7, 3) := by decide +kernel
theorem d14_12 : decode prog_65_method_1_code 12 = .ok (.aload_n 0, 1) := by decide +kernel
theorem d14_13 : decode prog_65_method_1_code 13 = .ok (.bipush 16, 2) := by decide +kernel
theorem d14_15 : decode prog_65_method_1_code 15 = .ok (.anewarray 13, 3) := by decide +kernel
theorem d14_18 : decode prog_65_method_1_code 18 = .ok (.putfield 15, 3) := by decide +kernel
theorem d14_21 : decode prog_65_method_1_code 21 = .ok (.return_, 1) := by decide +kernel
theorem pn_5 : plainName "com/example/valbonne/valbonne/codec/OffsetNames" = true := by first | (simp [plainName, overriddenIn]; done) | decide +kernel
theorem ef_14 (m : MethodId) (x0 : Addr) : entryFrame m #[(.ref x0)] 1 = mkF m 0 #[.val (.ref x0)] [] := by first | (simp [entryFrame, mkF, argsToLocals, Value.category]; done) | rfl
def Q14 (Z : State) (a1 : Addr) (u1 : Value) (u2 : Value) (h0 : Heap) (n0 : Nat) (v : Option Value) (h : Heap) (L : List Loc) : Prop := v = none ∧ Fr n0 L ∧ Keep h0 h [a1]
abbrev R14 : Room := { frames := 1, cells := 2, slots := 32, locals := 12 }
set_option maxRecDepth 65536 in
set_option maxHeartbeats 40000000 in
theorem rm14 (l : Launch) (Z : State) (a0 : Array Value) (hw : ∀ d ∈ tables_1, d.before a0 Z = true) (ws : List Jvm.Cond) (a1 : Addr) (u1 : Value) (u2 : Value) (h0 : Heap) (n0 : Nat) (Z0 : n0 ≤ h0.size) (E_a1 : Exa Z h0 a1 "com/example/valbonne/valbonne/codec/OffsetNames") (g_a1 : n0 ≤ a1) (F_offsets_a1 : Fld Z h0 a1 "com/example/valbonne/valbonne/codec/OffsetNames" "offsets" "[J" u1) (F_names_a1 : Fld Z h0 a1 "com/example/valbonne/valbonne/codec/OffsetNames" "names" "[Lcom/example/valbonne/valbonne/codec/Name;" u2) :
    MetFree l (⟨"com/example/valbonne/valbonne/codec/OffsetNames", "<init>", "()V"⟩ : MethodName) (head1 (Jvm.Cond.code (⟨"com/example/valbonne/valbonne/codec/OffsetNames", "<init>", "()V"⟩ : MethodName) prog_65_method_1_code 1 none :: ws) R14) (fun a U => a = #[(.ref a1)] ∧ Z.Warmed39 U.vm ∧ U.heap = h0) (fun _ _ _ _ _ => True) (fun _ U o U' => ∃ v L, o = .returned v ∧ Q14 Z a1 u1 u2 h0 n0 v U'.heap L ∧ FrameEnd U o U' L R14.cells R14.slots) := by
  refine MetFree.of_bodySF (plainFor_of_name pn_5) hisR ?_
  intro p e s m args below meth c s₁ Bd hml0 hP hK
  obtain ⟨rfl, hZ, hh⟩ := hP
  have hx := Bd.exec
  have hby := Bd.bytes
  have hlk : meth.locks = false := BodyLoose.notSynchronized Bd
  have hml : c.maxLocals = 1 := hml0
  have hown : s.vm.findClass "com/example/valbonne/valbonne/codec/OffsetNames" = some m.cls := findClass_of_methodNamed Bd.named
  have hnm := (name_of_methodNamed Bd.named Bd.method).1
  have X0 : Stand p l e R14 s m #[(.ref a1)] below meth c s₁ [] 0 0 := Stand.of_body Bd
  have e0 : s₁.heap = h0 := by rw [← hh, Bd.state]; rfl
  have N0 := Fr.nil n0
  show own_Goes p e below s (Q14 Z a1 u1 u2 h0 n0) R14.cells R14.slots s₁ (entryFrame m #[(.ref a1)] 1)
  rw [ef_14 m a1]
  refine own_step (f' := (mkF m 1 #[.val (.ref a1)] [(.ref a1)])) (fun _ k => XS.aloadN X0.here hx rfl (hb hby d14_0) rfl rfl k) ?_
  obtain ⟨T1, X1, e1, st1⟩ := initO X0 hx hZ hown (own_w84 hw) (own_w23 hw) (own_w24 hw) e0 (g := (mkF m 1 #[.val (.ref a1)] [(.ref a1)])) rfl (by rw [hml]; rfl) rfl (hb hby d14_1) (by decide) (W := 0) (by show 2 * 0 + _ ≤ _; exact Nat.le_of_eq rfl) (by decide)
  refine own_step (f' := (mkF m 4 #[.val (.ref a1)] [])) st1 ?_
  refine own_step (f' := (mkF m 5 #[.val (.ref a1)] [(.ref a1)])) (fun _ k => XS.aloadN X1.here hx rfl (hb hby d14_4) rfl rfl k) ?_
  refine own_step (f' := (mkF m 7 #[.val (.ref a1)] [(.int (16 : Int32)), (.ref a1)])) (fun _ k => XS.bipush X1.here hx rfl (hb hby d14_5) k) ?_
  obtain ⟨T2, h2, k2, X2, e2, E2, A2, st2⟩ := newP X1 hx hZ (aty := .long) (own_w85 hw) e1 (g := (mkF m 7 #[.val (.ref a1)] [(.int (16 : Int32)), (.ref a1)])) rfl (hb hby d14_7) rfl (by decide) (cap := 16) (by decide) (by decide) (by decide) (by decide)
  obtain ⟨b2, g2⟩ : ∃ z, z = h0.size := ⟨_, rfl⟩
  rw [← g2] at A2 st2
  have ne_a1_b2 : a1 ≠ b2 := Nat.ne_of_lt (Nat.lt_of_lt_of_le E_a1.lt (Nat.le_of_eq g2.symm))
  have g_b2 : n0 ≤ b2 := Nat.le_trans Z0 (Nat.le_of_eq g2.symm)
  have sz_b2 : h0.size ≤ b2 := Nat.le_trans (Keep.refl h0 [a1]).1 (Nat.le_of_eq g2.symm)
  have V_b2 : Arv Z h2 b2 k2 .long (16 : Int32) [(.long (0 : Int64)), (.long (0 : Int64)), (.long (0 : Int64)), (.long (0 : Int64)), (.long (0 : Int64)), (.long (0 : Int64)), (.long (0 : Int64)), (.long (0 : Int64)), (.long (0 : Int64)), (.long (0 : Int64)), (.long (0 : Int64)), (.long (0 : Int64)), (.long (0 : Int64)), (.long (0 : Int64)), (.long (0 : Int64)), (.long (0 : Int64))] (.long (0 : Int64)) := (Arv.new A2 (by decide)).pad (pad_rep [] (.long (0 : Int64)) 16)
  refine own_step (f' := (mkF m 9 #[.val (.ref a1)] [(.ref b2), (.ref a1)])) st2 ?_
  obtain ⟨T3, h3, X3, e3, W3, st3⟩ := putF X2 hx hZ hown (host := "") (Or.inl (own_w86 hw)) Via.refl e2 (F_offsets_a1.ext E2) (E_a1.ext E2) (Or.inl (own_w87 hw)) (own_w79 hw) own_fd_7 rfl rfl (g := (mkF m 9 #[.val (.ref a1)] [(.ref b2), (.ref a1)])) rfl rfl (hb hby d14_9)
  obtain ⟨Lo3, X3, N3⟩ : ∃ K, Stand p l e R14 s m #[(.ref a1)] below meth c T3 K 1 16 ∧ Fr n0 K := ⟨_, X3, (Fr.snoc X3 N0 g_a1)⟩
  refine own_step (f' := (mkF m 12 #[.val (.ref a1)] [])) st3 ?_
  refine own_step (f' := (mkF m 13 #[.val (.ref a1)] [(.ref a1)])) (fun _ k => XS.aloadN X3.here hx rfl (hb hby d14_12) rfl rfl k) ?_
  refine own_step (f' := (mkF m 15 #[.val (.ref a1)] [(.int (16 : Int32)), (.ref a1)])) (fun _ k => XS.bipush X3.here hx rfl (hb hby d14_13) k) ?_
  obtain ⟨T4, h4, k4, X4, e4, E4, A4, O4, st4⟩ := newR X3 hx hZ hown (own_w88 hw) (own_w89 hw) e3 (g := (mkF m 15 #[.val (.ref a1)] [(.int (16 : Int32)), (.ref a1)])) rfl (hb hby d14_15) rfl (by decide) (cap := 16) (by decide) (by decide) (by decide) (by decide)
  obtain ⟨b4, g4⟩ : ∃ z, z = h3.size := ⟨_, rfl⟩
  rw [← g4] at A4 st4
  have ne_a1_b4 : a1 ≠ b4 := Nat.ne_of_lt (Nat.lt_of_lt_of_le ((E_a1.ext E2).wr W3).lt (Nat.le_of_eq g4.symm))
  have ne_b2_b4 : b2 ≠ b4 := Nat.ne_of_lt (Nat.lt_of_lt_of_le (V_b2.other W3 (Ne.symm ne_a1_b2)).lt (Nat.le_of_eq g4.symm))
  have g_b4 : n0 ≤ b4 := Nat.le_trans (Nat.le_trans (Nat.le_trans Z0 E2.1) (Nat.le_of_eq W3.size.symm)) (Nat.le_of_eq g4.symm)
  have sz_b4 : h0.size ≤ b4 := Nat.le_trans (((Keep.refl h0 [a1]).ext E2).wr W3 (Or.inl (List.mem_of_getElem? (i := 0) rfl))).1 (Nat.le_of_eq g4.symm)
  have V_b4 : Arv Z h4 b4 k4 (.object own_NM) (16 : Int32) [.null, .null, .null, .null, .null, .null, .null, .null, .null, .null, .null, .null, .null, .null, .null, .null] .null := (Arv.new A4 (by decide)).pad (pad_rep [] .null 16)
  refine own_step (f' := (mkF m 18 #[.val (.ref a1)] [(.ref b4), (.ref a1)])) st4 ?_
  obtain ⟨T5, h5, X5, e5, W5, st5⟩ := putF X4 hx hZ hown (host := "") (Or.inl (own_w90 hw)) Via.refl e4 (((F_names_a1.ext E2).other W3 (Or.inr (Jvm.RoadKit.slot_ne (Or.inl (own_w91 hw)) (Or.inl (own_w87 hw)) (by decide) own_fd_8 own_fd_7))).ext E4) (((E_a1.ext E2).wr W3).ext E4) (Or.inl (own_w91 hw)) (own_w79 hw) own_fd_8 rfl rfl (g := (mkF m 18 #[.val (.ref a1)] [(.ref b4), (.ref a1)])) rfl rfl (hb hby d14_18)
  obtain ⟨Lo5, X5, N5⟩ : ∃ K, Stand p l e R14 s m #[(.ref a1)] below meth c T5 K 2 32 ∧ Fr n0 K := ⟨_, X5, (Fr.snoc X5 N3 g_a1)⟩
  refine own_step (f' := (mkF m 21 #[.val (.ref a1)] [])) st5 ?_
  refine own_out (v := none) X5 hlk (fun _ => rfl) (fun fs hr => X5.returnOut hx Bd.returns (hb hby d14_21) hr) (by decide) (by decide) ?_
  rw [e5]
  exact ⟨rfl, N5, (((((Keep.refl h0 [a1]).ext E2).wr W3 (Or.inl (List.mem_of_getElem? (i := 0) rfl))).ext E4).wr W5 (Or.inl (List.mem_of_getElem? (i := 0) rfl)))⟩
theorem own_w152 {a0 Z} (hw : own_HW a0 Z) : (Cond.methodLink "com/example/valbonne/valbonne/codec/AttributeCodings$Coding" (3 : Nat) ⟨"java/lang/Object", "<init>", "()V"⟩).before a0 Z = true := own_at hw 152 rfl
theorem own_w153 {a0 Z} (hw : own_HW a0 Z) : (Cond.fieldLink "com/example/valbonne/valbonne/codec/AttributeCodings$Coding" (9 : Nat) "com/example/valbonne/valbonne/codec/AttributeCodings$Coding" "bytes" "[B").before a0 Z = true := own_at hw 153 rfl
theorem own_w154 {a0 Z} (hw : own_HW a0 Z) : (Cond.laysFinal "com/example/valbonne/valbonne/codec/AttributeCodings$Coding" "com/example/valbonne/valbonne/codec/AttributeCodings$Coding" "bytes" "[B").before a0 Z = true := own_at hw 154 rfl
theorem own_w147 {a0 Z} (hw : own_HW a0 Z) : (Cond.instantiable "com/example/valbonne/valbonne/codec/AttributeCodings$Coding" (10 : Nat)).before a0 Z = true := own_at hw 147 rfl
theorem own_w168 {a0 Z} (hw : own_HW a0 Z) : (Cond.lays "com/example/valbonne/valbonne/codec/AttributeCodings$Coding" "com/example/valbonne/valbonne/codec/AttributeCodings$Coding" "declared" "Lcom/example/valbonne/valbonne/codec/DeclaredAttributes;").before a0 Z = true := own_at hw 168 rfl
theorem own_fd_9 : parseFieldDescriptor "Lcom/example/valbonne/valbonne/codec/DeclaredAttributes;" = some (.object "com/example/valbonne/valbonne/codec/DeclaredAttributes") := by decide +kernel
theorem own_w170 {a0 Z} (hw : own_HW a0 Z) : (Cond.lays "com/example/valbonne/valbonne/codec/AttributeCodings$Coding" "com/example/valbonne/valbonne/codec/AttributeCodings$Coding" "loose" "Z").before a0 Z = true := own_at hw 170 rfl
theorem own_fd_10 : parseFieldDescriptor "Z" = some .boolean := by decide +kernel
theorem own_w172 {a0 Z} (hw : own_HW a0 Z) : (Cond.lays "com/example/valbonne/valbonne/codec/AttributeCodings$Coding" "com/example/valbonne/valbonne/codec/AttributeCodings$Coding" "page" "I").before a0 Z = true := own_at hw 172 rfl
theorem own_w200 {a0 Z} (hw : own_HW a0 Z) : (Cond.lays "com/example/valbonne/valbonne/codec/AttributeCodings$Coding" "com/example/valbonne/valbonne/codec/AttributeCodings$Coding" "endPage" "I").before a0 Z = true := own_at hw 200 rfl
theorem own_w188 {a0 Z} (hw : own_HW a0 Z) : (Cond.lays "com/example/valbonne/valbonne/codec/AttributeCodings$Coding" "com/example/valbonne/valbonne/codec/AttributeCodings$Coding" "length" "I").before a0 Z = true := own_at hw 188 rfl
theorem own_w157 {a0 Z} (hw : own_HW a0 Z) : (Cond.laysFinal "com/example/valbonne/valbonne/codec/AttributeCodings$Coding" "com/example/valbonne/valbonne/codec/AttributeCodings$Coding" "names" "[Lcom/example/valbonne/valbonne/codec/Name;").before a0 Z = true := own_at hw 157 rfl
theorem own_w161 {a0 Z} (hw : own_HW a0 Z) : (Cond.laysFinal "com/example/valbonne/valbonne/codec/AttributeCodings$Coding" "com/example/valbonne/valbonne/codec/AttributeCodings$Coding" "values" "[Ljava/lang/String;").before a0 Z = true := own_at hw 161 rfl
theorem own_fd_11 : parseFieldDescriptor "[Ljava/lang/String;" = some (.array (.object "java/lang/String")) := by decide +kernel
theorem own_w174 {a0 Z} (hw : own_HW a0 Z) : (Cond.lays "com/example/valbonne/valbonne/codec/AttributeCodings$Coding" "com/example/valbonne/valbonne/codec/AttributeCodings$Coding" "size" "I").before a0 Z = true := own_at hw 174 rfl
theorem own_w176 {a0 Z} (hw : own_HW a0 Z) : (Cond.lays "com/example/valbonne/valbonne/codec/AttributeCodings$Coding" "com/example/valbonne/valbonne/codec/AttributeCodings$Coding" "known" "Z").before a0 Z = true := own_at hw 176 rfl
theorem own_w155 {a0 Z} (hw : own_HW a0 Z) : (Cond.classLink "com/example/valbonne/valbonne/codec/AttributeCodings$Coding" (15 : Nat) "com/example/valbonne/valbonne/codec/Name").before a0 Z = true := own_at hw 155 rfl
theorem own_w156 {a0 Z} (hw : own_HW a0 Z) : (Cond.fieldLink "com/example/valbonne/valbonne/codec/AttributeCodings$Coding" (17 : Nat) "com/example/valbonne/valbonne/codec/AttributeCodings$Coding" "names" "[Lcom/example/valbonne/valbonne/codec/Name;").before a0 Z = true := own_at hw 156 rfl
theorem own_w158 {a0 Z} (hw : own_HW a0 Z) : (Cond.classLink "com/example/valbonne/valbonne/codec/AttributeCodings$Coding" (21 : Nat) "java/lang/String").before a0 Z = true := own_at hw 158 rfl
theorem own_w159 {a0 Z} (hw : own_HW a0 Z) : (Cond.arrayOver (FieldType.object "java/lang/String")).before a0 Z = true := own_at hw 159 rfl
theorem own_w160 {a0 Z} (hw : own_HW a0 Z) : (Cond.fieldLink "com/example/valbonne/valbonne/codec/AttributeCodings$Coding" (23 : Nat) "com/example/valbonne/valbonne/codec/AttributeCodings$Coding" "values" "[Ljava/lang/String;").before a0 Z = true := own_at hw 160 rfl
theorem d20_0 : decode prog_12_method_1_code 0 = .ok (.aload_n 0, 1) := by decide +kernel
theorem d20_1 : decode prog_12_method_1_code 1 = .ok (.invokespecial 3, 3) := by decide +kernel
theorem d20_4 : decode prog_12_method_1_code 4 = .ok (.aload_n 0, 1) := by decide +kernel
theorem d20_5 : decode prog_12_method_1_code 5 = .ok (.bipush 64, 2) := by decide +kernel
theorem d20_7 : decode prog_12_method_1_code 7 = .ok (.newarray .byte, 2) := by decide +kernel
theorem d20_9 : decode prog_12_method_1_code 9 = .ok (.putfield 9, 3) := by decide +kernel
theorem d20_12 : decode prog_12_method_1_code 12 = .ok (.aload_n 0, 1) := by decide +kernel
theorem d20_13 : decode prog_12_method_1_code 13 = .ok (.bipush 16, 2) := by decide +kernel
theorem d20_15 : decode prog_12_method_1_code 15 = .ok (.anewarray 15, 3) := by decide +kernel
theorem d20_18 : decode prog_12_method_1_code 18 = .ok (.putfield 17, 3) := by decide +kernel
theorem d20_21 : decode prog_12_method_1_code 21 = .ok (.aload_n 0, 1) := by decide +kernel
theorem d20_22 : decode prog_12_method_1_code 22 = .ok (.bipush 16, 2) := by decide +kernel
theorem d20_24 : decode prog_12_method_1_code 24 = .ok (.anewarray 21, 3) := by decide +kernel
theorem d20_27 : decode prog_12_method_1_code 27 = .ok (.putfield 23, 3) := by decide +kernel
theorem d20_30 : decode prog_12_method_1_code 30 = .ok (.return_, 1) := by decide +kernel
theorem pn_6 : plainName "com/example/valbonne/valbonne/codec/AttributeCodings$Coding" = true := by first | (simp [plainName, overriddenIn]; done) | decide +kernel
theorem ef_20 (m : MethodId) (x0 : Addr) : entryFrame m #[(.ref x0)] 1 = mkF m 0 #[.val (.ref x0)] [] := by first | (simp [entryFrame, mkF, argsToLocals, Value.category]; done) | rfl
def Q20 (Z : State) (a1 : Addr) (u1 : Value) (u2 : Value) (u3 : Value) (h0 : Heap) (n0 : Nat) (v : Option Value) (h : Heap) (L : List Loc) : Prop := ∃ y1 : Addr, ∃ ky1 : ClassId, ∃ y2 : Addr, ∃ ky2 : ClassId, ∃ y3 : Addr, ∃ ky3 : ClassId, v = none ∧ Fr n0 L ∧ Keep h0 h [a1] ∧ n0 ≤ y1 ∧ h0.size ≤ y1 ∧ n0 ≤ y2 ∧ h0.size ≤ y2 ∧ y1 ≠ y2 ∧ n0 ≤ y3 ∧ h0.size ≤ y3 ∧ y1 ≠ y3 ∧ y2 ≠ y3 ∧ Fld Z h a1 own_CO "declared" "Lcom/example/valbonne/valbonne/codec/DeclaredAttributes;" .null ∧ Fld Z h a1 own_CO "loose" "Z" (.int (0 : Int32)) ∧ Fld Z h a1 own_CO "page" "I" (.int (0 : Int32)) ∧ Fld Z h a1 own_CO "endPage" "I" (.int (0 : Int32)) ∧ Fld Z h a1 own_CO "bytes" "[B" (.ref y1) ∧ Fld Z h a1 own_CO "length" "I" (.int (0 : Int32)) ∧ Fld Z h a1 own_CO "names" "[Lcom/example/valbonne/valbonne/codec/Name;" (.ref y2) ∧ Fld Z h a1 own_CO "values" "[Ljava/lang/String;" (.ref y3) ∧ Fld Z h a1 own_CO "size" "I" (.int (0 : Int32)) ∧ Fld Z h a1 own_CO "known" "Z" (.int (0 : Int32)) ∧ Arv Z h y1 ky1 .byte (64 : Int32) [] (.int (0 : Int32)) ∧ Arv Z h y2 ky2 (.object own_NM) (16 : Int32) [.null, .null, .null, .null, .null, .null, .null, .null, .null, .null, .null, .null, .null, .null, .null, .null] .null ∧ Ovr Z ky2 own_NM ∧ Arv Z h y3 ky3 (.object "java/lang/String") (16 : Int32) [.null, .null, .null, .null, .null, .null, .null, .null, .null, .null, .null, .null, .null, .null, .null, .null] .null ∧ Ovr Z ky3 "java/lang/String"
abbrev R20 : Room := { frames := 1, cells := 3, slots := 96, locals := 12 }
set_option maxRecDepth 65536 in
set_option maxHeartbeats 40000000 in
theorem rm20 (l : Launch) (Z : State) (a0 : Array Value) (hw : ∀ d ∈ tables_1, d.before a0 Z = true) (ws : List Jvm.Cond) (a1 : Addr) (u1 : Value) (u2 : Value) (u3 : Value) (h0 : Heap) (n0 : Nat) (Z0 : n0 ≤ h0.size) (E_a1 : Exa Z h0 a1 own_CO) (g_a1 : n0 ≤ a1) (F_declared_a1 : Fld Z h0 a1 own_CO "declared" "Lcom/example/valbonne/valbonne/codec/DeclaredAttributes;" .null) (F_loose_a1 : Fld Z h0 a1 own_CO "loose" "Z" (.int (0 : Int32))) (F_page_a1 : Fld Z h0 a1 own_CO "page" "I" (.int (0 : Int32))) (F_endPage_a1 : Fld Z h0 a1 own_CO "endPage" "I" (.int (0 : Int32))) (F_bytes_a1 : Fld Z h0 a1 own_CO "bytes" "[B" u1) (F_length_a1 : Fld Z h0 a1 own_CO "length" "I" (.int (0 : Int32))) (F_names_a1 : Fld Z h0 a1 own_CO "names" "[Lcom/example/valbonne/valbonne/codec/Name;" u2) (F_values_a1 : Fld Z h0 a1 own_CO "values" "[Ljava/lang/String;" u3) (F_size_a1 : Fld Z h0 a1 own_CO "size" "I" (.int (0 : Int32))) (F_known_a1 : Fld Z h0 a1 own_CO "known" "Z" (.int (0 : Int32))) :
    MetFree l (⟨own_CO, "<init>", "()V"⟩ : MethodName) (head1 (Jvm.Cond.code (⟨own_CO, "<init>", "()V"⟩ : MethodName) prog_12_method_1_code 1 none :: ws) R20) (fun a U => a = #[(.ref a1)] ∧ Z.Warmed39 U.vm ∧ U.heap = h0) (fun _ _ _ _ _ => True) (fun _ U o U' => ∃ v L, o = .returned v ∧ Q20 Z a1 u1 u2 u3 h0 n0 v U'.heap L ∧ FrameEnd U o U' L R20.cells R20.slots) := by
  refine MetFree.of_bodySF (plainFor_of_name pn_6) hisR ?_
  intro p e s m args below meth c s₁ Bd hml0 hP hK
  obtain ⟨rfl, hZ, hh⟩ := hP
  have hx := Bd.exec
  have hby := Bd.bytes
  have hlk : meth.locks = false := BodyLoose.notSynchronized Bd
  have hml : c.maxLocals = 1 := hml0
  have hown : s.vm.findClass own_CO = some m.cls := findClass_of_methodNamed Bd.named
  have hnm := (name_of_methodNamed Bd.named Bd.method).1
  have X0 : Stand p l e R20 s m #[(.ref a1)] below meth c s₁ [] 0 0 := Stand.of_body Bd
  have e0 : s₁.heap = h0 := by rw [← hh, Bd.state]; rfl
  have N0 := Fr.nil n0
  show own_Goes p e below s (Q20 Z a1 u1 u2 u3 h0 n0) R20.cells R20.slots s₁ (entryFrame m #[(.ref a1)] 1)
  rw [ef_20 m a1]
  refine own_step (f' := (mkF m 1 #[.val (.ref a1)] [(.ref a1)])) (fun _ k => XS.aloadN X0.here hx rfl (hb hby d20_0) rfl rfl k) ?_
  obtain ⟨T1, X1, e1, st1⟩ := initO X0 hx hZ hown (own_w152 hw) (own_w23 hw) (own_w24 hw) e0 (g := (mkF m 1 #[.val (.ref a1)] [(.ref a1)])) rfl (by rw [hml]; rfl) rfl (hb hby d20_1) (by decide) (W := 0) (by show 2 * 0 + _ ≤ _; exact Nat.le_of_eq rfl) (by decide)
  refine own_step (f' := (mkF m 4 #[.val (.ref a1)] [])) st1 ?_
  refine own_step (f' := (mkF m 5 #[.val (.ref a1)] [(.ref a1)])) (fun _ k => XS.aloadN X1.here hx rfl (hb hby d20_4) rfl rfl k) ?_
  refine own_step (f' := (mkF m 7 #[.val (.ref a1)] [(.int (64 : Int32)), (.ref a1)])) (fun _ k => XS.bipush X1.here hx rfl (hb hby d20_5) k) ?_
  obtain ⟨T2, h2, k2, X2, e2, E2, A2, st2⟩ := newP X1 hx hZ (aty := .byte) (own_w17 hw) e1 (g := (mkF m 7 #[.val (.ref a1)] [(.int (64 : Int32)), (.ref a1)])) rfl (hb hby d20_7) rfl (by decide) (cap := 64) (by decide) (by decide) (by decide) (by decide)
  obtain ⟨b2, g2⟩ : ∃ z, z = h0.size := ⟨_, rfl⟩
  rw [← g2] at A2 st2
  have ne_a1_b2 : a1 ≠ b2 := Nat.ne_of_lt (Nat.lt_of_lt_of_le E_a1.lt (Nat.le_of_eq g2.symm))
  have g_b2 : n0 ≤ b2 := Nat.le_trans Z0 (Nat.le_of_eq g2.symm)
  have sz_b2 : h0.size ≤ b2 := Nat.le_trans (Keep.refl h0 [a1]).1 (Nat.le_of_eq g2.symm)
  have V_b2 : Arv Z h2 b2 k2 .byte (64 : Int32) [] (.int (0 : Int32)) := Arv.new A2 (by decide)
  refine own_step (f' := (mkF m 9 #[.val (.ref a1)] [(.ref b2), (.ref a1)])) st2 ?_
  obtain ⟨T3, h3, X3, e3, W3, st3⟩ := putF X2 hx hZ hown (host := "") (Or.inl (own_w153 hw)) Via.refl e2 (F_bytes_a1.ext E2) (E_a1.ext E2) (Or.inr ⟨(own_w154 hw), rfl, hnm⟩) (own_w147 hw) own_fd_0 rfl rfl (g := (mkF m 9 #[.val (.ref a1)] [(.ref b2), (.ref a1)])) rfl rfl (hb hby d20_9)
  obtain ⟨Lo3, X3, N3⟩ : ∃ K, Stand p l e R20 s m #[(.ref a1)] below meth c T3 K 1 64 ∧ Fr n0 K := ⟨_, X3, (Fr.snoc X3 N0 g_a1)⟩
  refine own_step (f' := (mkF m 12 #[.val (.ref a1)] [])) st3 ?_
  refine own_step (f' := (mkF m 13 #[.val (.ref a1)] [(.ref a1)])) (fun _ k => XS.aloadN X3.here hx rfl (hb hby d20_12) rfl rfl k) ?_
  refine own_step (f' := (mkF m 15 #[.val (.ref a1)] [(.int (16 : Int32)), (.ref a1)])) (fun _ k => XS.bipush X3.here hx rfl (hb hby d20_13) k) ?_
  obtain ⟨T4, h4, k4, X4, e4, E4, A4, O4, st4⟩ := newR X3 hx hZ hown (own_w155 hw) (own_w89 hw) e3 (g := (mkF m 15 #[.val (.ref a1)] [(.int (16 : Int32)), (.ref a1)])) rfl (hb hby d20_15) rfl (by decide) (cap := 16) (by decide) (by decide) (by decide) (by decide)
  obtain ⟨b4, g4⟩ : ∃ z, z = h3.size := ⟨_, rfl⟩
  rw [← g4] at A4 st4
  have ne_a1_b4 : a1 ≠ b4 := Nat.ne_of_lt (Nat.lt_of_lt_of_le ((E_a1.ext E2).wr W3).lt (Nat.le_of_eq g4.symm))
  have ne_b2_b4 : b2 ≠ b4 := Nat.ne_of_lt (Nat.lt_of_lt_of_le (V_b2.other W3 (Ne.symm ne_a1_b2)).lt (Nat.le_of_eq g4.symm))
  have g_b4 : n0 ≤ b4 := Nat.le_trans (Nat.le_trans (Nat.le_trans Z0 E2.1) (Nat.le_of_eq W3.size.symm)) (Nat.le_of_eq g4.symm)
  have sz_b4 : h0.size ≤ b4 := Nat.le_trans (((Keep.refl h0 [a1]).ext E2).wr W3 (Or.inl (List.mem_of_getElem? (i := 0) rfl))).1 (Nat.le_of_eq g4.symm)
  have V_b4 : Arv Z h4 b4 k4 (.object own_NM) (16 : Int32) [.null, .null, .null, .null, .null, .null, .null, .null, .null, .null, .null, .null, .null, .null, .null, .null] .null := (Arv.new A4 (by decide)).pad (pad_rep [] .null 16)
  refine own_step (f' := (mkF m 18 #[.val (.ref a1)] [(.ref b4), (.ref a1)])) st4 ?_
  obtain ⟨T5, h5, X5, e5, W5, st5⟩ := putF X4 hx hZ hown (host := "") (Or.inl (own_w156 hw)) Via.refl e4 (((F_names_a1.ext E2).other W3 (Or.inr (Jvm.RoadKit.slot_ne (Or.inr (own_w157 hw)) (Or.inr (own_w154 hw)) (by decide) own_fd_8 own_fd_0))).ext E4) (((E_a1.ext E2).wr W3).ext E4) (Or.inr ⟨(own_w157 hw), rfl, hnm⟩) (own_w147 hw) own_fd_8 rfl rfl (g := (mkF m 18 #[.val (.ref a1)] [(.ref b4), (.ref a1)])) rfl rfl (hb hby d20_18)
  obtain ⟨Lo5, X5, N5⟩ : ∃ K, Stand p l e R20 s m #[(.ref a1)] below meth c T5 K 2 80 ∧ Fr n0 K := ⟨_, X5, (Fr.snoc X5 N3 g_a1)⟩
  refine own_step (f' := (mkF m 21 #[.val (.ref a1)] [])) st5 ?_
  refine own_step (f' := (mkF m 22 #[.val (.ref a1)] [(.ref a1)])) (fun _ k => XS.aloadN X5.here hx rfl (hb hby d20_21) rfl rfl k) ?_
  refine own_step (f' := (mkF m 24 #[.val (.ref a1)] [(.int (16 : Int32)), (.ref a1)])) (fun _ k => XS.bipush X5.here hx rfl (hb hby d20_22) k) ?_
  obtain ⟨T6, h6, k6, X6, e6, E6, A6, O6, st6⟩ := newR X5 hx hZ hown (own_w158 hw) (own_w159 hw) e5 (g := (mkF m 24 #[.val (.ref a1)] [(.int (16 : Int32)), (.ref a1)])) rfl (hb hby d20_24) rfl (by decide) (cap := 16) (by decide) (by decide) (by decide) (by decide)
  obtain ⟨b6, g6⟩ : ∃ z, z = h5.size := ⟨_, rfl⟩
  rw [← g6] at A6 st6
  have ne_a1_b6 : a1 ≠ b6 := Nat.ne_of_lt (Nat.lt_of_lt_of_le ((((E_a1.ext E2).wr W3).ext E4).wr W5).lt (Nat.le_of_eq g6.symm))
  have ne_b2_b6 : b2 ≠ b6 := Nat.ne_of_lt (Nat.lt_of_lt_of_le (((V_b2.other W3 (Ne.symm ne_a1_b2)).ext E4).other W5 (Ne.symm ne_a1_b2)).lt (Nat.le_of_eq g6.symm))
  have ne_b4_b6 : b4 ≠ b6 := Nat.ne_of_lt (Nat.lt_of_lt_of_le (V_b4.other W5 (Ne.symm ne_a1_b4)).lt (Nat.le_of_eq g6.symm))
  have g_b6 : n0 ≤ b6 := Nat.le_trans (Nat.le_trans (Nat.le_trans (Nat.le_trans (Nat.le_trans Z0 E2.1) (Nat.le_of_eq W3.size.symm)) E4.1) (Nat.le_of_eq W5.size.symm)) (Nat.le_of_eq g6.symm)
  have sz_b6 : h0.size ≤ b6 := Nat.le_trans (((((Keep.refl h0 [a1]).ext E2).wr W3 (Or.inl (List.mem_of_getElem? (i := 0) rfl))).ext E4).wr W5 (Or.inl (List.mem_of_getElem? (i := 0) rfl))).1 (Nat.le_of_eq g6.symm)
  have V_b6 : Arv Z h6 b6 k6 (.object "java/lang/String") (16 : Int32) [.null, .null, .null, .null, .null, .null, .null, .null, .null, .null, .null, .null, .null, .null, .null, .null] .null := (Arv.new A6 (by decide)).pad (pad_rep [] .null 16)
  refine own_step (f' := (mkF m 27 #[.val (.ref a1)] [(.ref b6), (.ref a1)])) st6 ?_
  obtain ⟨T7, h7, X7, e7, W7, st7⟩ := putF X6 hx hZ hown (host := "") (Or.inl (own_w160 hw)) Via.refl e6 (((((F_values_a1.ext E2).other W3 (Or.inr (Jvm.RoadKit.slot_ne (Or.inr (own_w161 hw)) (Or.inr (own_w154 hw)) (by decide) own_fd_11 own_fd_0))).ext E4).other W5 (Or.inr (Jvm.RoadKit.slot_ne (Or.inr (own_w161 hw)) (Or.inr (own_w157 hw)) (by decide) own_fd_11 own_fd_8))).ext E6) (((((E_a1.ext E2).wr W3).ext E4).wr W5).ext E6) (Or.inr ⟨(own_w161 hw), rfl, hnm⟩) (own_w147 hw) own_fd_11 rfl rfl (g := (mkF m 27 #[.val (.ref a1)] [(.ref b6), (.ref a1)])) rfl rfl (hb hby d20_27)
  obtain ⟨Lo7, X7, N7⟩ : ∃ K, Stand p l e R20 s m #[(.ref a1)] below meth c T7 K 3 96 ∧ Fr n0 K := ⟨_, X7, (Fr.snoc X7 N5 g_a1)⟩
  refine own_step (f' := (mkF m 30 #[.val (.ref a1)] [])) st7 ?_
  refine own_out (v := none) X7 hlk (fun _ => rfl) (fun fs hr => X7.returnOut hx Bd.returns (hb hby d20_30) hr) (by decide) (by decide) ?_
  rw [e7]
  exact ⟨b2, _, b4, _, b6, _, rfl, N7, (((((((Keep.refl h0 [a1]).ext E2).wr W3 (Or.inl (List.mem_of_getElem? (i := 0) rfl))).ext E4).wr W5 (Or.inl (List.mem_of_getElem? (i := 0) rfl))).ext E6).wr W7 (Or.inl (List.mem_of_getElem? (i := 0) rfl))), g_b2, sz_b2, g_b4, sz_b4, ne_b2_b4, g_b6, sz_b6, ne_b2_b6, ne_b4_b6, ((((((F_declared_a1.ext E2).other W3 (Or.inr (Jvm.RoadKit.slot_ne (Or.inl (own_w168 hw)) (Or.inr (own_w154 hw)) (by decide) own_fd_9 own_fd_0))).ext E4).other W5 (Or.inr (Jvm.RoadKit.slot_ne (Or.inl (own_w168 hw)) (Or.inr (own_w157 hw)) (by decide) own_fd_9 own_fd_8))).ext E6).other W7 (Or.inr (Jvm.RoadKit.slot_ne (Or.inl (own_w168 hw)) (Or.inr (own_w161 hw)) (by decide) own_fd_9 own_fd_11))), ((((((F_loose_a1.ext E2).other W3 (Or.inr (Jvm.RoadKit.slot_ne (Or.inl (own_w170 hw)) (Or.inr (own_w154 hw)) (by decide) own_fd_10 own_fd_0))).ext E4).other W5 (Or.inr (Jvm.RoadKit.slot_ne (Or.inl (own_w170 hw)) (Or.inr (own_w157 hw)) (by decide) own_fd_10 own_fd_8))).ext E6).other W7 (Or.inr (Jvm.RoadKit.slot_ne (Or.inl (own_w170 hw)) (Or.inr (own_w161 hw)) (by decide) own_fd_10 own_fd_11))), ((((((F_page_a1.ext E2).other W3 (Or.inr (Jvm.RoadKit.slot_ne (Or.inl (own_w172 hw)) (Or.inr (own_w154 hw)) (by decide) own_fd_2 own_fd_0))).ext E4).other W5 (Or.inr (Jvm.RoadKit.slot_ne (Or.inl (own_w172 hw)) (Or.inr (own_w157 hw)) (by decide) own_fd_2 own_fd_8))).ext E6).other W7 (Or.inr (Jvm.RoadKit.slot_ne (Or.inl (own_w172 hw)) (Or.inr (own_w161 hw)) (by decide) own_fd_2 own_fd_11))), ((((((F_endPage_a1.ext E2).other W3 (Or.inr (Jvm.RoadKit.slot_ne (Or.inl (own_w200 hw)) (Or.inr (own_w154 hw)) (by decide) own_fd_2 own_fd_0))).ext E4).other W5 (Or.inr (Jvm.RoadKit.slot_ne (Or.inl (own_w200 hw)) (Or.inr (own_w157 hw)) (by decide) own_fd_2 own_fd_8))).ext E6).other W7 (Or.inr (Jvm.RoadKit.slot_ne (Or.inl (own_w200 hw)) (Or.inr (own_w161 hw)) (by decide) own_fd_2 own_fd_11))), ((((((F_bytes_a1.ext E2).same W3).ext E4).other W5 (Or.inr (Jvm.RoadKit.slot_ne (Or.inr (own_w154 hw)) (Or.inr (own_w157 hw)) (by decide) own_fd_0 own_fd_8))).ext E6).other W7 (Or.inr (Jvm.RoadKit.slot_ne (Or.inr (own_w154 hw)) (Or.inr (own_w161 hw)) (by decide) own_fd_0 own_fd_11))), ((((((F_length_a1.ext E2).other W3 (Or.inr (Jvm.RoadKit.slot_ne (Or.inl (own_w188 hw)) (Or.inr (own_w154 hw)) (by decide) own_fd_2 own_fd_0))).ext E4).other W5 (Or.inr (Jvm.RoadKit.slot_ne (Or.inl (own_w188 hw)) (Or.inr (own_w157 hw)) (by decide) own_fd_2 own_fd_8))).ext E6).other W7 (Or.inr (Jvm.RoadKit.slot_ne (Or.inl (own_w188 hw)) (Or.inr (own_w161 hw)) (by decide) own_fd_2 own_fd_11))), ((((((F_names_a1.ext E2).other W3 (Or.inr (Jvm.RoadKit.slot_ne (Or.inr (own_w157 hw)) (Or.inr (own_w154 hw)) (by decide) own_fd_8 own_fd_0))).ext E4).same W5).ext E6).other W7 (Or.inr (Jvm.RoadKit.slot_ne (Or.inr (own_w157 hw)) (Or.inr (own_w161 hw)) (by decide) own_fd_8 own_fd_11))), ((((((F_values_a1.ext E2).other W3 (Or.inr (Jvm.RoadKit.slot_ne (Or.inr (own_w161 hw)) (Or.inr (own_w154 hw)) (by decide) own_fd_11 own_fd_0))).ext E4).other W5 (Or.inr (Jvm.RoadKit.slot_ne (Or.inr (own_w161 hw)) (Or.inr (own_w157 hw)) (by decide) own_fd_11 own_fd_8))).ext E6).same W7), ((((((F_size_a1.ext E2).other W3 (Or.inr (Jvm.RoadKit.slot_ne (Or.inl (own_w174 hw)) (Or.inr (own_w154 hw)) (by decide) own_fd_2 own_fd_0))).ext E4).other W5 (Or.inr (Jvm.RoadKit.slot_ne (Or.inl (own_w174 hw)) (Or.inr (own_w157 hw)) (by decide) own_fd_2 own_fd_8))).ext E6).other W7 (Or.inr (Jvm.RoadKit.slot_ne (Or.inl (own_w174 hw)) (Or.inr (own_w161 hw)) (by decide) own_fd_2 own_fd_11))), ((((((F_known_a1.ext E2).other W3 (Or.inr (Jvm.RoadKit.slot_ne (Or.inl (own_w176 hw)) (Or.inr (own_w154 hw)) (by decide) own_fd_10 own_fd_0))).ext E4).other W5 (Or.inr (Jvm.RoadKit.slot_ne (Or.inl (own_w176 hw)) (Or.inr (own_w157 hw)) (by decide) own_fd_10 own_fd_8))).ext E6).other W7 (Or.inr (Jvm.RoadKit.slot_ne (Or.inl (own_w176 hw)) (Or.inr (own_w161 hw)) (by decide) own_fd_10 own_fd_11))), (((((V_b2.other W3 (Ne.symm ne_a1_b2)).ext E4).other W5 (Ne.symm ne_a1_b2)).ext E6).other W7 (Ne.symm ne_a1_b2)), (((V_b4.other W5 (Ne.symm ne_a1_b4)).ext E6).other W7 (Ne.symm ne_a1_b4)), O4, (V_b6.other W7 (Ne.symm ne_a1_b6)), O6⟩
theorem own_w120 {a0 Z} (hw : own_HW a0 Z) : (Cond.fieldLink "com/example/valbonne/valbonne/codec/StreamInput" (74 : Nat) "com/example/valbonne/valbonne/codec/StreamInput" "offset" "J").before a0 Z = true := own_at hw 120 rfl
theorem own_w122 {a0 Z} (hw : own_HW a0 Z) : (Cond.fieldLink "com/example/valbonne/valbonne/codec/StreamInput" (48 : Nat) "com/example/valbonne/valbonne/codec/StreamInput" "pos" "I").before a0 Z = true := own_at hw 122 rfl
theorem d16_0 : decode prog_83_method_7_code 0 = .ok (.aload_n 0, 1) := by decide +kernel
theorem d16_1 : decode prog_83_method_7_code 1 = .ok (.getfield 74, 3) := by decide +kernel
theorem d16_4 : decode prog_83_method_7_code 4 = .ok (.aload_n 0, 1) := by decide +kernel
theorem d16_5 : decode prog_83_method_7_code 5 = .ok (.getfield 48, 3) := by decide +kernel
theorem d16_8 : decode prog_83_method_7_code 8 = .ok (.i2l, 1) := by decide +kernel
theorem d16_9 : decode prog_83_method_7_code 9 = .ok (.ladd, 1) := by decide +kernel
theorem d16_10 : decode prog_83_method_7_code 10 = .ok (.lreturn, 1) := by decide +kernel
theorem pn_7 : plainName "com/example/valbonne/valbonne/codec/StreamInput" = true := by first | (simp [plainName, overriddenIn]; done) | decide +kernel
theorem ef_16 (m : MethodId) (x0 : Addr) : entryFrame m #[(.ref x0)] 1 = mkF m 0 #[.val (.ref x0)] [] := by first | (simp [entryFrame, mkF, argsToLocals, Value.category]; done) | rfl
def Q16 (Z : State) (a1 : Addr) (h0 : Heap) (n0 : Nat) (v : Option Value) (h : Heap) (L : List Loc) : Prop := v = some (.long (0 : Int64)) ∧ L = [] ∧ h = h0
abbrev R16 : Room := { frames := 0, cells := 0, slots := 0, locals := 0 }
set_option maxRecDepth 65536 in
set_option maxHeartbeats 40000000 in
theorem rm16 (l : Launch) (Z : State) (a0 : Array Value) (hw : ∀ d ∈ tables_1, d.before a0 Z = true) (ws : List Jvm.Cond) (a1 : Addr) (h0 : Heap) (n0 : Nat) (Z0 : n0 ≤ h0.size) (F_pos_a1 : Fld Z h0 a1 own_SI "pos" "I" (.int (0 : Int32))) (F_offset_a1 : Fld Z h0 a1 own_SI "offset" "J" (.long (0 : Int64))) :
    MetFree l (⟨own_SI, "position", "()J"⟩ : MethodName) (head1 (Jvm.Cond.code (⟨own_SI, "position", "()J"⟩ : MethodName) prog_83_method_7_code 1 (some .long) :: ws) R16) (fun a U => a = #[(.ref a1)] ∧ Z.Warmed39 U.vm ∧ U.heap = h0) (fun _ _ _ _ _ => True) (fun _ U o U' => ∃ v L, o = .returned v ∧ Q16 Z a1 h0 n0 v U'.heap L ∧ FrameEnd U o U' L R16.cells R16.slots) := by
  refine MetFree.of_bodySF (plainFor_of_name pn_7) hisR ?_
  intro p e s m args below meth c s₁ Bd hml0 hP hK
  obtain ⟨rfl, hZ, hh⟩ := hP
  have hx := Bd.exec
  have hby := Bd.bytes
  have hlk : meth.locks = false := BodyLoose.notSynchronized Bd
  have hml : c.maxLocals = 1 := hml0
  have hown : s.vm.findClass own_SI = some m.cls := findClass_of_methodNamed Bd.named
  have hnm := (name_of_methodNamed Bd.named Bd.method).1
  have X0 : Stand p l e R16 s m #[(.ref a1)] below meth c s₁ [] 0 0 := Stand.of_body Bd
  have e0 : s₁.heap = h0 := by rw [← hh, Bd.state]; rfl
  have N0 := Fr.nil n0
  show own_Goes p e below s (Q16 Z a1 h0 n0) R16.cells R16.slots s₁ (entryFrame m #[(.ref a1)] 1)
  rw [ef_16 m a1]
  refine own_step (f' := (mkF m 1 #[.val (.ref a1)] [(.ref a1)])) (fun _ k => XS.aloadN X0.here hx rfl (hb hby d16_0) rfl rfl k) ?_
  obtain ⟨T1, X1, e1, st1⟩ := getF X0 hx hZ hown (host := "") (Or.inl (own_w120 hw)) Via.refl e0 F_offset_a1 (g := (mkF m 1 #[.val (.ref a1)] [(.ref a1)])) rfl rfl (hb hby d16_1)
  refine own_step (f' := (mkF m 4 #[.val (.ref a1)] [(.long (0 : Int64))])) st1 ?_
  refine own_step (f' := (mkF m 5 #[.val (.ref a1)] [(.ref a1), (.long (0 : Int64))])) (fun _ k => XS.aloadN X1.here hx rfl (hb hby d16_4) rfl rfl k) ?_
  obtain ⟨T2, X2, e2, st2⟩ := getF X1 hx hZ hown (host := "") (Or.inl (own_w122 hw)) Via.refl e1 F_pos_a1 (g := (mkF m 5 #[.val (.ref a1)] [(.ref a1), (.long (0 : Int64))])) rfl rfl (hb hby d16_5)
  refine own_step (f' := (mkF m 8 #[.val (.ref a1)] [(.int (0 : Int32)), (.long (0 : Int64))])) st2 ?_
  refine own_step (f' := (mkF m 9 #[.val (.ref a1)] [(.long (0 : Int64)), (.long (0 : Int64))])) (fun _ k => XS.i2l X2.here hx rfl (hb hby d16_8) rfl k) ?_
  refine own_step (f' := (mkF m 10 #[.val (.ref a1)] [(.long (0 : Int64))])) (fun _ k => XS.ladd X2.here hx rfl (hb hby d16_9) rfl k) ?_
  refine own_out (v := some (.long (0 : Int64))) X2 hlk (fun h => by rw [Bd.returns] at h; cases h) (fun fs hr => retOut X2 hx Bd.returns rfl (Or.inr (Or.inl ⟨rfl, rfl, _, rfl⟩)) (hb hby d16_10) hr) (by decide) (by decide) ?_
  rw [e2]
  exact ⟨rfl, rfl, rfl⟩
theorem own_w138 {a0 Z} (hw : own_HW a0 Z) : (Cond.fieldLink "com/example/valbonne/valbonne/codec/StreamInput" (81 : Nat) "com/example/valbonne/valbonne/codec/StreamInput" "attributePage" "I").before a0 Z = true := own_at hw 138 rfl
theorem d18_0 : decode prog_83_method_11_code 0 = .ok (.aload_n 0, 1) := by decide +kernel
theorem d18_1 : decode prog_83_method_11_code 1 = .ok (.getfield 81, 3) := by decide +kernel
theorem d18_4 : decode prog_83_method_11_code 4 = .ok (.ireturn, 1) := by decide +kernel
theorem ef_18 (m : MethodId) (x0 : Addr) : entryFrame m #[(.ref x0)] 1 = mkF m 0 #[.val (.ref x0)] [] := by first | (simp [entryFrame, mkF, argsToLocals, Value.category]; done) | rfl
def Q18 (Z : State) (a1 : Addr) (h0 : Heap) (n0 : Nat) (v : Option Value) (h : Heap) (L : List Loc) : Prop := v = some (.int (0 : Int32)) ∧ L = [] ∧ h = h0
abbrev R18 : Room := { frames := 0, cells := 0, slots := 0, locals := 0 }
set_option maxRecDepth 65536 in
set_option maxHeartbeats 40000000 in
theorem rm18 (l : Launch) (Z : State) (a0 : Array Value) (hw : ∀ d ∈ tables_1, d.before a0 Z = true) (ws : List Jvm.Cond) (a1 : Addr) (h0 : Heap) (n0 : Nat) (Z0 : n0 ≤ h0.size) (F_attributePage_a1 : Fld Z h0 a1 own_SI "attributePage" "I" (.int (0 : Int32))) :
    MetFree l (⟨own_SI, "attributePage", "()I"⟩ : MethodName) (head1 (Jvm.Cond.code (⟨own_SI, "attributePage", "()I"⟩ : MethodName) prog_83_method_11_code 1 (some .int) :: ws) R18) (fun a U => a = #[(.ref a1)] ∧ Z.Warmed39 U.vm ∧ U.heap = h0) (fun _ _ _ _ _ => True) (fun _ U o U' => ∃ v L, o = .returned v ∧ Q18 Z a1 h0 n0 v U'.heap L ∧ FrameEnd U o U' L R18.cells R18.slots) := by
  refine MetFree.of_bodySF (plainFor_of_name pn_7) hisR ?_
  intro p e s m args below meth c s₁ Bd hml0 hP hK
  obtain ⟨rfl, hZ, hh⟩ := hP
  have hx := Bd.exec
  have hby := Bd.bytes
  have hlk : meth.locks = false := BodyLoose.notSynchronized Bd
  have hml : c.maxLocals = 1 := hml0
  have hown : s.vm.findClass own_SI = some m.cls := findClass_of_methodNamed Bd.named
  have hnm := (name_of_methodNamed Bd.named Bd.method).1
  have X0 : Stand p l e R18 s m #[(.ref a1)] below meth c s₁ [] 0 0 := Stand.of_body Bd
  have e0 : s₁.heap = h0 := by rw [← hh, Bd.state]; rfl
  have N0 := Fr.nil n0
  show own_Goes p e below s (Q18 Z a1 h0 n0) R18.cells R18.slots s₁ (entryFrame m #[(.ref a1)] 1)
  rw [ef_18 m a1]
  refine own_step (f' := (mkF m 1 #[.val (.ref a1)] [(.ref a1)])) (fun _ k => XS.aloadN X0.here hx rfl (hb hby d18_0) rfl rfl k) ?_
  obtain ⟨T1, X1, e1, st1⟩ := getF X0 hx hZ hown (host := "") (Or.inl (own_w138 hw)) Via.refl e0 F_attributePage_a1 (g := (mkF m 1 #[.val (.ref a1)] [(.ref a1)])) rfl rfl (hb hby d18_1)
  refine own_step (f' := (mkF m 4 #[.val (.ref a1)] [(.int (0 : Int32))])) st1 ?_
  refine own_out (v := some (.int (0 : Int32))) X1 hlk (fun h => by rw [Bd.returns] at h; cases h) (fun fs hr => retOut X1 hx Bd.returns rfl (Or.inl ⟨rfl, Or.inl rfl, _, rfl⟩) (hb hby d18_4) hr) (by decide) (by decide) ?_
  rw [e1]
  exact ⟨rfl, rfl, rfl⟩
theorem own_w167 {a0 Z} (hw : own_HW a0 Z) : (Cond.fieldLink "com/example/valbonne/valbonne/codec/AttributeCodings$Coding" (31 : Nat) "com/example/valbonne/valbonne/codec/AttributeCodings$Coding" "declared" "Lcom/example/valbonne/valbonne/codec/DeclaredAttributes;").before a0 Z = true := own_at hw 167 rfl
theorem own_w169 {a0 Z} (hw : own_HW a0 Z) : (Cond.fieldLink "com/example/valbonne/valbonne/codec/AttributeCodings$Coding" (35 : Nat) "com/example/valbonne/valbonne/codec/AttributeCodings$Coding" "loose" "Z").before a0 Z = true := own_at hw 169 rfl
theorem own_w171 {a0 Z} (hw : own_HW a0 Z) : (Cond.fieldLink "com/example/valbonne/valbonne/codec/AttributeCodings$Coding" (39 : Nat) "com/example/valbonne/valbonne/codec/AttributeCodings$Coding" "page" "I").before a0 Z = true := own_at hw 171 rfl
theorem own_w173 {a0 Z} (hw : own_HW a0 Z) : (Cond.fieldLink "com/example/valbonne/valbonne/codec/AttributeCodings$Coding" (27 : Nat) "com/example/valbonne/valbonne/codec/AttributeCodings$Coding" "size" "I").before a0 Z = true := own_at hw 173 rfl
theorem own_w175 {a0 Z} (hw : own_HW a0 Z) : (Cond.fieldLink "com/example/valbonne/valbonne/codec/AttributeCodings$Coding" (42 : Nat) "com/example/valbonne/valbonne/codec/AttributeCodings$Coding" "known" "Z").before a0 Z = true := own_at hw 175 rfl
theorem d21_0 : decode prog_12_method_5_code 0 = .ok (.aload_n 0, 1) := by decide +kernel
theorem d21_1 : decode prog_12_method_5_code 1 = .ok (.aload_n 1, 1) := by decide +kernel
theorem d21_2 : decode prog_12_method_5_code 2 = .ok (.putfield 31, 3) := by decide +kernel
theorem d21_5 : decode prog_12_method_5_code 5 = .ok (.aload_n 0, 1) := by decide +kernel
theorem d21_6 : decode prog_12_method_5_code 6 = .ok (.iload_n 2, 1) := by decide +kernel
theorem d21_7 : decode prog_12_method_5_code 7 = .ok (.putfield 35, 3) := by decide +kernel
theorem d21_10 : decode prog_12_method_5_code 10 = .ok (.aload_n 0, 1) := by decide +kernel
theorem d21_11 : decode prog_12_method_5_code 11 = .ok (.iload_n 3, 1) := by decide +kernel
theorem d21_12 : decode prog_12_method_5_code 12 = .ok (.putfield 39, 3) := by decide +kernel
theorem d21_15 : decode prog_12_method_5_code 15 = .ok (.aload_n 0, 1) := by decide +kernel
theorem d21_16 : decode prog_12_method_5_code 16 = .ok (.iconst 0, 1) := by decide +kernel
theorem d21_17 : decode prog_12_method_5_code 17 = .ok (.putfield 27, 3) := by decide +kernel
theorem d21_20 : decode prog_12_method_5_code 20 = .ok (.aload_n 0, 1) := by decide +kernel
theorem d21_21 : decode prog_12_method_5_code 21 = .ok (.iconst 0, 1) := by decide +kernel
theorem d21_22 : decode prog_12_method_5_code 22 = .ok (.putfield 42, 3) := by decide +kernel
theorem d21_25 : decode prog_12_method_5_code 25 = .ok (.return_, 1) := by decide +kernel
theorem ef_21 (m : MethodId) (x0 : Addr) (x2 : Int32) (x3 : Int32) : entryFrame m #[(.ref x0), .null, (.int x2), (.int x3)] 4 = mkF m 0 #[.val (.ref x0), .val .null, .val (.int x2), .val (.int x3)] [] := by first | (simp [entryFrame, mkF, argsToLocals, Value.category]; done) | rfl
def Q21 (Z : State) (a1 : Addr) (u1 : Value) (u2 : Value) (u3 : Value) (h0 : Heap) (n0 : Nat) (v : Option Value) (h : Heap) (L : List Loc) : Prop := v = none ∧ Fr n0 L ∧ Keep h0 h [a1] ∧ Fld Z h a1 own_CO "declared" "Lcom/example/valbonne/valbonne/codec/DeclaredAttributes;" .null ∧ Fld Z h a1 own_CO "loose" "Z" (.int (1 : Int32)) ∧ Fld Z h a1 own_CO "page" "I" (.int (0 : Int32)) ∧ Fld Z h a1 own_CO "endPage" "I" (.int (0 : Int32)) ∧ Fld Z h a1 own_CO "bytes" "[B" u1 ∧ Fld Z h a1 own_CO "length" "I" (.int (0 : Int32)) ∧ Fld Z h a1 own_CO "names" "[Lcom/example/valbonne/valbonne/codec/Name;" u2 ∧ Fld Z h a1 own_CO "values" "[Ljava/lang/String;" u3 ∧ Fld Z h a1 own_CO "size" "I" (.int (0 : Int32)) ∧ Fld Z h a1 own_CO "known" "Z" (.int (0 : Int32))
abbrev R21 : Room := { frames := 0, cells := 0, slots := 0, locals := 0 }
set_option maxRecDepth 65536 in
set_option maxHeartbeats 40000000 in
theorem rm21 (l : Launch) (Z : State) (a0 : Array Value) (hw : ∀ d ∈ tables_1, d.before a0 Z = true) (ws : List Jvm.Cond) (a1 : Addr) (u1 : Value) (u2 : Value) (u3 : Value) (h0 : Heap) (n0 : Nat) (Z0 : n0 ≤ h0.size) (E_a1 : Exa Z h0 a1 own_CO) (g_a1 : n0 ≤ a1) (F_declared_a1 : Fld Z h0 a1 own_CO "declared" "Lcom/example/valbonne/valbonne/codec/DeclaredAttributes;" .null) (F_loose_a1 : Fld Z h0 a1 own_CO "loose" "Z" (.int (0 : Int32))) (F_page_a1 : Fld Z h0 a1 own_CO "page" "I" (.int (0 : Int32))) (F_endPage_a1 : Fld Z h0 a1 own_CO "endPage" "I" (.int (0 : Int32))) (F_bytes_a1 : Fld Z h0 a1 own_CO "bytes" "[B" u1) (F_length_a1 : Fld Z h0 a1 own_CO "length" "I" (.int (0 : Int32))) (F_names_a1 : Fld Z h0 a1 own_CO "names" "[Lcom/example/valbonne/valbonne/codec/Name;" u2) (F_values_a1 : Fld Z h0 a1 own_CO "values" "[Ljava/lang/String;" u3) (F_size_a1 : Fld Z h0 a1 own_CO "size" "I" (.int (0 : Int32))) (F_known_a1 : Fld Z h0 a1 own_CO "known" "Z" (.int (0 : Int32))) :
    MetFree l (⟨own_CO, "clear", "(Lcom/example/valbonne/valbonne/codec/DeclaredAttributes;ZI)V"⟩ : MethodName) (head1 (Jvm.Cond.code (⟨own_CO, "clear", "(Lcom/example/valbonne/valbonne/codec/DeclaredAttributes;ZI)V"⟩ : MethodName) prog_12_method_5_code 4 none :: ws) R21) (fun a U => a = #[(.ref a1), .null, (.int (1 : Int32)), (.int (0 : Int32))] ∧ Z.Warmed39 U.vm ∧ U.heap = h0) (fun _ _ _ _ _ => True) (fun _ U o U' => ∃ v L, o = .returned v ∧ Q21 Z a1 u1 u2 u3 h0 n0 v U'.heap L ∧ FrameEnd U o U' L R21.cells R21.slots) := by
  refine MetFree.of_bodySF (plainFor_of_name pn_6) hisR ?_
  intro p e s m args below meth c s₁ Bd hml0 hP hK
  obtain ⟨rfl, hZ, hh⟩ := hP
  have hx := Bd.exec
  have hby := Bd.bytes
  have hlk : meth.locks = false := BodyLoose.notSynchronized Bd
  have hml : c.maxLocals = 4 := hml0
  have hown : s.vm.findClass own_CO = some m.cls := findClass_of_methodNamed Bd.named
  have hnm := (name_of_methodNamed Bd.named Bd.method).1
  have X0 : Stand p l e R21 s m #[(.ref a1), .null, (.int (1 : Int32)), (.int (0 : Int32))] below meth c s₁ [] 0 0 := Stand.of_body Bd
  have e0 : s₁.heap = h0 := by rw [← hh, Bd.state]; rfl
  have N0 := Fr.nil n0
  show own_Goes p e below s (Q21 Z a1 u1 u2 u3 h0 n0) R21.cells R21.slots s₁ (entryFrame m #[(.ref a1), .null, (.int (1 : Int32)), (.int (0 : Int32))] 4)
  rw [ef_21 m a1 (1 : Int32) (0 : Int32)]
  refine own_step (f' := (mkF m 1 #[.val (.ref a1), .val .null, .val (.int (1 : Int32)), .val (.int (0 : Int32))] [(.ref a1)])) (fun _ k => XS.aloadN X0.here hx rfl (hb hby d21_0) rfl rfl k) ?_
  refine own_step (f' := (mkF m 2 #[.val (.ref a1), .val .null, .val (.int (1 : Int32)), .val (.int (0 : Int32))] [.null, (.ref a1)])) (fun _ k => XS.aloadN X0.here hx rfl (hb hby d21_1) rfl rfl k) ?_
  obtain ⟨T1, h1, X1, e1, W1, st1⟩ := putF X0 hx hZ hown (host := "") (Or.inl (own_w167 hw)) Via.refl e0 F_declared_a1 E_a1 (Or.inl (own_w168 hw)) (own_w147 hw) own_fd_9 rfl rfl (g := (mkF m 2 #[.val (.ref a1), .val .null, .val (.int (1 : Int32)), .val (.int (0 : Int32))] [.null, (.ref a1)])) rfl rfl (hb hby d21_2)
  obtain ⟨Lo1, X1, N1⟩ : ∃ K, Stand p l e R21 s m #[(.ref a1), .null, (.int (1 : Int32)), (.int (0 : Int32))] below meth c T1 K 0 0 ∧ Fr n0 K := ⟨_, X1, (Fr.snoc X1 N0 g_a1)⟩
  refine own_step (f' := (mkF m 5 #[.val (.ref a1), .val .null, .val (.int (1 : Int32)), .val (.int (0 : Int32))] [])) st1 ?_
  refine own_step (f' := (mkF m 6 #[.val (.ref a1), .val .null, .val (.int (1 : Int32)), .val (.int (0 : Int32))] [(.ref a1)])) (fun _ k => XS.aloadN X1.here hx rfl (hb hby d21_5) rfl rfl k) ?_
  refine own_step (f' := (mkF m 7 #[.val (.ref a1), .val .null, .val (.int (1 : Int32)), .val (.int (0 : Int32))] [(.int (1 : Int32)), (.ref a1)])) (fun _ k => XS.iloadN X1.here hx rfl (hb hby d21_6) rfl k) ?_
  obtain ⟨T2, h2, X2, e2, W2, st2⟩ := putFN X1 hx hZ hown (own_w169 hw) Via.refl e1 (F_loose_a1.other W1 (Or.inr (Jvm.RoadKit.slot_ne (Or.inl (own_w170 hw)) (Or.inl (own_w168 hw)) (by decide) own_fd_10 own_fd_9))) (E_a1.wr W1) (Or.inl (own_w170 hw)) (own_w147 hw) (v' := (.int (1 : Int32))) own_fd_10 rfl rfl (g := (mkF m 7 #[.val (.ref a1), .val .null, .val (.int (1 : Int32)), .val (.int (0 : Int32))] [(.int (1 : Int32)), (.ref a1)])) rfl rfl (hb hby d21_7)
  obtain ⟨Lo2, X2, N2⟩ : ∃ K, Stand p l e R21 s m #[(.ref a1), .null, (.int (1 : Int32)), (.int (0 : Int32))] below meth c T2 K 0 0 ∧ Fr n0 K := ⟨_, X2, (Fr.snoc X2 N1 g_a1)⟩
  refine own_step (f' := (mkF m 10 #[.val (.ref a1), .val .null, .val (.int (1 : Int32)), .val (.int (0 : Int32))] [])) st2 ?_
  refine own_step (f' := (mkF m 11 #[.val (.ref a1), .val .null, .val (.int (1 : Int32)), .val (.int (0 : Int32))] [(.ref a1)])) (fun _ k => XS.aloadN X2.here hx rfl (hb hby d21_10) rfl rfl k) ?_
  refine own_step (f' := (mkF m 12 #[.val (.ref a1), .val .null, .val (.int (1 : Int32)), .val (.int (0 : Int32))] [(.int (0 : Int32)), (.ref a1)])) (fun _ k => XS.iloadN X2.here hx rfl (hb hby d21_11) rfl k) ?_
  obtain ⟨T3, h3, X3, e3, W3, st3⟩ := putF X2 hx hZ hown (host := "") (Or.inl (own_w171 hw)) Via.refl e2 ((F_page_a1.other W1 (Or.inr (Jvm.RoadKit.slot_ne (Or.inl (own_w172 hw)) (Or.inl (own_w168 hw)) (by decide) own_fd_2 own_fd_9))).other W2 (Or.inr (Jvm.RoadKit.slot_ne (Or.inl (own_w172 hw)) (Or.inl (own_w170 hw)) (by decide) own_fd_2 own_fd_10))) ((E_a1.wr W1).wr W2) (Or.inl (own_w172 hw)) (own_w147 hw) own_fd_2 rfl rfl (g := (mkF m 12 #[.val (.ref a1), .val .null, .val (.int (1 : Int32)), .val (.int (0 : Int32))] [(.int (0 : Int32)), (.ref a1)])) rfl rfl (hb hby d21_12)
  obtain ⟨Lo3, X3, N3⟩ : ∃ K, Stand p l e R21 s m #[(.ref a1), .null, (.int (1 : Int32)), (.int (0 : Int32))] below meth c T3 K 0 0 ∧ Fr n0 K := ⟨_, X3, (Fr.snoc X3 N2 g_a1)⟩
  refine own_step (f' := (mkF m 15 #[.val (.ref a1), .val .null, .val (.int (1 : Int32)), .val (.int (0 : Int32))] [])) st3 ?_
  refine own_step (f' := (mkF m 16 #[.val (.ref a1), .val .null, .val (.int (1 : Int32)), .val (.int (0 : Int32))] [(.ref a1)])) (fun _ k => XS.aloadN X3.here hx rfl (hb hby d21_15) rfl rfl k) ?_
  refine own_step (f' := (mkF m 17 #[.val (.ref a1), .val .null, .val (.int (1 : Int32)), .val (.int (0 : Int32))] [(.int (0 : Int32)), (.ref a1)])) (fun _ k => XS.iconst X3.here hx rfl (hb hby d21_16) k) ?_
  obtain ⟨T4, h4, X4, e4, W4, st4⟩ := putF X3 hx hZ hown (host := "") (Or.inl (own_w173 hw)) Via.refl e3 (((F_size_a1.other W1 (Or.inr (Jvm.RoadKit.slot_ne (Or.inl (own_w174 hw)) (Or.inl (own_w168 hw)) (by decide) own_fd_2 own_fd_9))).other W2 (Or.inr (Jvm.RoadKit.slot_ne (Or.inl (own_w174 hw)) (Or.inl (own_w170 hw)) (by decide) own_fd_2 own_fd_10))).other W3 (Or.inr (Jvm.RoadKit.slot_ne (Or.inl (own_w174 hw)) (Or.inl (own_w172 hw)) (by decide) own_fd_2 own_fd_2))) (((E_a1.wr W1).wr W2).wr W3) (Or.inl (own_w174 hw)) (own_w147 hw) own_fd_2 rfl rfl (g := (mkF m 17 #[.val (.ref a1), .val .null, .val (.int (1 : Int32)), .val (.int (0 : Int32))] [(.int (0 : Int32)), (.ref a1)])) rfl rfl (hb hby d21_17)
  obtain ⟨Lo4, X4, N4⟩ : ∃ K, Stand p l e R21 s m #[(.ref a1), .null, (.int (1 : Int32)), (.int (0 : Int32))] below meth c T4 K 0 0 ∧ Fr n0 K := ⟨_, X4, (Fr.snoc X4 N3 g_a1)⟩
  refine own_step (f' := (mkF m 20 #[.val (.ref a1), .val .null, .val (.int (1 : Int32)), .val (.int (0 : Int32))] [])) st4 ?_
  refine own_step (f' := (mkF m 21 #[.val (.ref a1), .val .null, .val (.int (1 : Int32)), .val (.int (0 : Int32))] [(.ref a1)])) (fun _ k => XS.aloadN X4.here hx rfl (hb hby d21_20) rfl rfl k) ?_
  refine own_step (f' := (mkF m 22 #[.val (.ref a1), .val .null, .val (.int (1 : Int32)), .val (.int (0 : Int32))] [(.int (0 : Int32)), (.ref a1)])) (fun _ k => XS.iconst X4.here hx rfl (hb hby d21_21) k) ?_
  obtain ⟨T5, h5, X5, e5, W5, st5⟩ := putFN X4 hx hZ hown (own_w175 hw) Via.refl e4 ((((F_known_a1.other W1 (Or.inr (Jvm.RoadKit.slot_ne (Or.inl (own_w176 hw)) (Or.inl (own_w168 hw)) (by decide) own_fd_10 own_fd_9))).other W2 (Or.inr (Jvm.RoadKit.slot_ne (Or.inl (own_w176 hw)) (Or.inl (own_w170 hw)) (by decide) own_fd_10 own_fd_10))).other W3 (Or.inr (Jvm.RoadKit.slot_ne (Or.inl (own_w176 hw)) (Or.inl (own_w172 hw)) (by decide) own_fd_10 own_fd_2))).other W4 (Or.inr (Jvm.RoadKit.slot_ne (Or.inl (own_w176 hw)) (Or.inl (own_w174 hw)) (by decide) own_fd_10 own_fd_2))) ((((E_a1.wr W1).wr W2).wr W3).wr W4) (Or.inl (own_w176 hw)) (own_w147 hw) (v' := (.int (0 : Int32))) own_fd_10 rfl rfl (g := (mkF m 22 #[.val (.ref a1), .val .null, .val (.int (1 : Int32)), .val (.int (0 : Int32))] [(.int (0 : Int32)), (.ref a1)])) rfl rfl (hb hby d21_22)
  obtain ⟨Lo5, X5, N5⟩ : ∃ K, Stand p l e R21 s m #[(.ref a1), .null, (.int (1 : Int32)), (.int (0 : Int32))] below meth c T5 K 0 0 ∧ Fr n0 K := ⟨_, X5, (Fr.snoc X5 N4 g_a1)⟩
  refine own_step (f' := (mkF m 25 #[.val (.ref a1), .val .null, .val (.int (1 : Int32)), .val (.int (0 : Int32))] [])) st5 ?_
  refine own_out (v := none) X5 hlk (fun _ => rfl) (fun fs hr => X5.returnOut hx Bd.returns (hb hby d21_25) hr) (by decide) (by decide) ?_
  rw [e5]
  exact ⟨rfl, N5, ((((((Keep.refl h0 [a1]).wr W1 (Or.inl (List.mem_of_getElem? (i := 0) rfl))).wr W2 (Or.inl (List.mem_of_getElem? (i := 0) rfl))).wr W3 (Or.inl (List.mem_of_getElem? (i := 0) rfl))).wr W4 (Or.inl (List.mem_of_getElem? (i := 0) rfl))).wr W5 (Or.inl (List.mem_of_getElem? (i := 0) rfl))), (((((F_declared_a1.same W1).other W2 (Or.inr (Jvm.RoadKit.slot_ne (Or.inl (own_w168 hw)) (Or.inl (own_w170 hw)) (by decide) own_fd_9 own_fd_10))).other W3 (Or.inr (Jvm.RoadKit.slot_ne (Or.inl (own_w168 hw)) (Or.inl (own_w172 hw)) (by decide) own_fd_9 own_fd_2))).other W4 (Or.inr (Jvm.RoadKit.slot_ne (Or.inl (own_w168 hw)) (Or.inl (own_w174 hw)) (by decide) own_fd_9 own_fd_2))).other W5 (Or.inr (Jvm.RoadKit.slot_ne (Or.inl (own_w168 hw)) (Or.inl (own_w176 hw)) (by decide) own_fd_9 own_fd_10))), (((((F_loose_a1.other W1 (Or.inr (Jvm.RoadKit.slot_ne (Or.inl (own_w170 hw)) (Or.inl (own_w168 hw)) (by decide) own_fd_10 own_fd_9))).same W2).other W3 (Or.inr (Jvm.RoadKit.slot_ne (Or.inl (own_w170 hw)) (Or.inl (own_w172 hw)) (by decide) own_fd_10 own_fd_2))).other W4 (Or.inr (Jvm.RoadKit.slot_ne (Or.inl (own_w170 hw)) (Or.inl (own_w174 hw)) (by decide) own_fd_10 own_fd_2))).other W5 (Or.inr (Jvm.RoadKit.slot_ne (Or.inl (own_w170 hw)) (Or.inl (own_w176 hw)) (by decide) own_fd_10 own_fd_10))), (((((F_page_a1.other W1 (Or.inr (Jvm.RoadKit.slot_ne (Or.inl (own_w172 hw)) (Or.inl (own_w168 hw)) (by decide) own_fd_2 own_fd_9))).other W2 (Or.inr (Jvm.RoadKit.slot_ne (Or.inl (own_w172 hw)) (Or.inl (own_w170 hw)) (by decide) own_fd_2 own_fd_10))).same W3).other W4 (Or.inr (Jvm.RoadKit.slot_ne (Or.inl (own_w172 hw)) (Or.inl (own_w174 hw)) (by decide) own_fd_2 own_fd_2))).other W5 (Or.inr (Jvm.RoadKit.slot_ne (Or.inl (own_w172 hw)) (Or.inl (own_w176 hw)) (by decide) own_fd_2 own_fd_10))), (((((F_endPage_a1.other W1 (Or.inr (Jvm.RoadKit.slot_ne (Or.inl (own_w200 hw)) (Or.inl (own_w168 hw)) (by decide) own_fd_2 own_fd_9))).other W2 (Or.inr (Jvm.RoadKit.slot_ne (Or.inl (own_w200 hw)) (Or.inl (own_w170 hw)) (by decide) own_fd_2 own_fd_10))).other W3 (Or.inr (Jvm.RoadKit.slot_ne (Or.inl (own_w200 hw)) (Or.inl (own_w172 hw)) (by decide) own_fd_2 own_fd_2))).other W4 (Or.inr (Jvm.RoadKit.slot_ne (Or.inl (own_w200 hw)) (Or.inl (own_w174 hw)) (by decide) own_fd_2 own_fd_2))).other W5 (Or.inr (Jvm.RoadKit.slot_ne (Or.inl (own_w200 hw)) (Or.inl (own_w176 hw)) (by decide) own_fd_2 own_fd_10))), (((((F_bytes_a1.other W1 (Or.inr (Jvm.RoadKit.slot_ne (Or.inr (own_w154 hw)) (Or.inl (own_w168 hw)) (by decide) own_fd_0 own_fd_9))).other W2 (Or.inr (Jvm.RoadKit.slot_ne (Or.inr (own_w154 hw)) (Or.inl (own_w170 hw)) (by decide) own_fd_0 own_fd_10))).other W3 (Or.inr (Jvm.RoadKit.slot_ne (Or.inr (own_w154 hw)) (Or.inl (own_w172 hw)) (by decide) own_fd_0 own_fd_2))).other W4 (Or.inr (Jvm.RoadKit.slot_ne (Or.inr (own_w154 hw)) (Or.inl (own_w174 hw)) (by decide) own_fd_0 own_fd_2))).other W5 (Or.inr (Jvm.RoadKit.slot_ne (Or.inr (own_w154 hw)) (Or.inl (own_w176 hw)) (by decide) own_fd_0 own_fd_10))), (((((F_length_a1.other W1 (Or.inr (Jvm.RoadKit.slot_ne (Or.inl (own_w188 hw)) (Or.inl (own_w168 hw)) (by decide) own_fd_2 own_fd_9))).other W2 (Or.inr (Jvm.RoadKit.slot_ne (Or.inl (own_w188 hw)) (Or.inl (own_w170 hw)) (by decide) own_fd_2 own_fd_10))).other W3 (Or.inr (Jvm.RoadKit.slot_ne (Or.inl (own_w188 hw)) (Or.inl (own_w172 hw)) (by decide) own_fd_2 own_fd_2))).other W4 (Or.inr (Jvm.RoadKit.slot_ne (Or.inl (own_w188 hw)) (Or.inl (own_w174 hw)) (by decide) own_fd_2 own_fd_2))).other W5 (Or.inr (Jvm.RoadKit.slot_ne (Or.inl (own_w188 hw)) (Or.inl (own_w176 hw)) (by decide) own_fd_2 own_fd_10))), (((((F_names_a1.other W1 (Or.inr (Jvm.RoadKit.slot_ne (Or.inr (own_w157 hw)) (Or.inl (own_w168 hw)) (by decide) own_fd_8 own_fd_9))).other W2 (Or.inr (Jvm.RoadKit.slot_ne (Or.inr (own_w157 hw)) (Or.inl (own_w170 hw)) (by decide) own_fd_8 own_fd_10))).other W3 (Or.inr (Jvm.RoadKit.slot_ne (Or.inr (own_w157 hw)) (Or.inl (own_w172 hw)) (by decide) own_fd_8 own_fd_2))).other W4 (Or.inr (Jvm.RoadKit.slot_ne (Or.inr (own_w157 hw)) (Or.inl (own_w174 hw)) (by decide) own_fd_8 own_fd_2))).other W5 (Or.inr (Jvm.RoadKit.slot_ne (Or.inr (own_w157 hw)) (Or.inl (own_w176 hw)) (by decide) own_fd_8 own_fd_10))), (((((F_values_a1.other W1 (Or.inr (Jvm.RoadKit.slot_ne (Or.inr (own_w161 hw)) (Or.inl (own_w168 hw)) (by decide) own_fd_11 own_fd_9))).other W2 (Or.inr (Jvm.RoadKit.slot_ne (Or.inr (own_w161 hw)) (Or.inl (own_w170 hw)) (by decide) own_fd_11 own_fd_10))).other W3 (Or.inr (Jvm.RoadKit.slot_ne (Or.inr (own_w161 hw)) (Or.inl (own_w172 hw)) (by decide) own_fd_11 own_fd_2))).other W4 (Or.inr (Jvm.RoadKit.slot_ne (Or.inr (own_w161 hw)) (Or.inl (own_w174 hw)) (by decide) own_fd_11 own_fd_2))).other W5 (Or.inr (Jvm.RoadKit.slot_ne (Or.inr (own_w161 hw)) (Or.inl (own_w176 hw)) (by decide) own_fd_11 own_fd_10))), (((((F_size_a1.other W1 (Or.inr (Jvm.RoadKit.slot_ne (Or.inl (own_w174 hw)) (Or.inl (own_w168 hw)) (by decide) own_fd_2 own_fd_9))).other W2 (Or.inr (Jvm.RoadKit.slot_ne (Or.inl (own_w174 hw)) (Or.inl (own_w170 hw)) (by decide) own_fd_2 own_fd_10))).other W3 (Or.inr (Jvm.RoadKit.slot_ne (Or.inl (own_w174 hw)) (Or.inl (own_w172 hw)) (by decide) own_fd_2 own_fd_2))).same W4).other W5 (Or.inr (Jvm.RoadKit.slot_ne (Or.inl (own_w174 hw)) (Or.inl (own_w176 hw)) (by decide) own_fd_2 own_fd_10))), (((((F_known_a1.other W1 (Or.inr (Jvm.RoadKit.slot_ne (Or.inl (own_w176 hw)) (Or.inl (own_w168 hw)) (by decide) own_fd_10 own_fd_9))).other W2 (Or.inr (Jvm.RoadKit.slot_ne (Or.inl (own_w176 hw)) (Or.inl (own_w170 hw)) (by decide) own_fd_10 own_fd_10))).other W3 (Or.inr (Jvm.RoadKit.slot_ne (Or.inl (own_w176 hw)) (Or.inl (own_w172 hw)) (by decide) own_fd_10 own_fd_2))).other W4 (Or.inr (Jvm.RoadKit.slot_ne (Or.inl (own_w176 hw)) (Or.inl (own_w174 hw)) (by decide) own_fd_10 own_fd_2))).same W5)⟩
theorem own_w145 {a0 Z} (hw : own_HW a0 Z) : (Cond.fieldLink "com/example/valbonne/valbonne/codec/AttributeCodings" (48 : Nat) "com/example/valbonne/valbonne/codec/AttributeCodings" "oldest" "I").before a0 Z = true := own_at hw 145 rfl
theorem own_w148 {a0 Z} (hw : own_HW a0 Z) : (Cond.initialized "com/example/valbonne/valbonne/codec/AttributeCodings$Coding").before a0 Z = true := own_at hw 148 rfl
theorem own_w149 {a0 Z} (hw : own_HW a0 Z) : (Cond.methodLink "com/example/valbonne/valbonne/codec/AttributeCodings" (51 : Nat) ⟨"com/example/valbonne/valbonne/codec/AttributeCodings$Coding", "<init>", "()V"⟩).before a0 Z = true := own_at hw 149 rfl
theorem own_w151 {a0 Z} (hw : own_HW a0 Z) : (Cond.code ⟨"com/example/valbonne/valbonne/codec/AttributeCodings$Coding", "<init>", "()V"⟩ prog_12_method_1_code (1 : Nat) none).before a0 Z = true := own_at hw 151 rfl
theorem pd_7 : parseMethodDescriptor "()V" = some ⟨[], none⟩ := by decide +kernel
theorem own_w150 {a0 Z} (hw : own_HW a0 Z) : (Cond.instanceMethod ⟨"com/example/valbonne/valbonne/codec/AttributeCodings$Coding", "<init>", "()V"⟩).before a0 Z = true := own_at hw 150 rfl
theorem own_w126 {a0 Z} (hw : own_HW a0 Z) : (Cond.fieldLink "com/example/valbonne/valbonne/codec/AttributeCodings" (52 : Nat) "com/example/valbonne/valbonne/codec/AttributeCodings" "reading" "Lcom/example/valbonne/valbonne/codec/AttributeCodings$Coding;").before a0 Z = true := own_at hw 126 rfl
theorem own_w133 {a0 Z} (hw : own_HW a0 Z) : (Cond.methodLink "com/example/valbonne/valbonne/codec/AttributeCodings" (25 : Nat) ⟨"com/example/valbonne/valbonne/codec/StreamInput", "attributePage", "()I"⟩).before a0 Z = true := own_at hw 133 rfl
theorem own_w137 {a0 Z} (hw : own_HW a0 Z) : (Cond.code ⟨"com/example/valbonne/valbonne/codec/StreamInput", "attributePage", "()I"⟩ prog_83_method_11_code (1 : Nat) (some FieldType.int)).before a0 Z = true := own_at hw 137 rfl
theorem own_w71 {a0 Z} (hw : own_HW a0 Z) : (Cond.initialized "com/example/valbonne/valbonne/codec/StreamInput").before a0 Z = true := own_at hw 71 rfl
theorem pd_8 : parseMethodDescriptor "()I" = some ⟨[], some .int⟩ := by decide +kernel
theorem own_w136 {a0 Z} (hw : own_HW a0 Z) : (Cond.selects "com/example/valbonne/valbonne/codec/StreamInput" ⟨"com/example/valbonne/valbonne/codec/StreamInput", "attributePage", "()I"⟩ ⟨"com/example/valbonne/valbonne/codec/StreamInput", "attributePage", "()I"⟩).before a0 Z = true := own_at hw 136 rfl
theorem own_w134 {a0 Z} (hw : own_HW a0 Z) : (Cond.declares ⟨"com/example/valbonne/valbonne/codec/StreamInput", "attributePage", "()I"⟩).before a0 Z = true := own_at hw 134 rfl
theorem own_w135 {a0 Z} (hw : own_HW a0 Z) : (Cond.instanceMethod ⟨"com/example/valbonne/valbonne/codec/StreamInput", "attributePage", "()I"⟩).before a0 Z = true := own_at hw 135 rfl
theorem own_w163 {a0 Z} (hw : own_HW a0 Z) : (Cond.methodRef "com/example/valbonne/valbonne/codec/AttributeCodings" (55 : Nat) ⟨"com/example/valbonne/valbonne/codec/AttributeCodings$Coding", "clear", "(Lcom/example/valbonne/valbonne/codec/DeclaredAttributes;ZI)V"⟩).before a0 Z = true := own_at hw 163 rfl
theorem own_w166 {a0 Z} (hw : own_HW a0 Z) : (Cond.code ⟨"com/example/valbonne/valbonne/codec/AttributeCodings$Coding", "clear", "(Lcom/example/valbonne/valbonne/codec/DeclaredAttributes;ZI)V"⟩ prog_12_method_5_code (4 : Nat) none).before a0 Z = true := own_at hw 166 rfl
theorem pd_9 : parseMethodDescriptor "(Lcom/example/valbonne/valbonne/codec/DeclaredAttributes;ZI)V" = some ⟨[(.object "com/example/valbonne/valbonne/codec/DeclaredAttributes"), .boolean, .int], none⟩ := by decide +kernel
theorem own_w225 {a0 Z} (hw : own_HW a0 Z) : (Cond.selects "com/example/valbonne/valbonne/codec/AttributeCodings$Coding" ⟨"com/example/valbonne/valbonne/codec/AttributeCodings$Coding", "size", "()I"⟩ ⟨"com/example/valbonne/valbonne/codec/AttributeCodings$Coding", "size", "()I"⟩).before a0 Z = true := own_at hw 225 rfl
theorem own_w165 {a0 Z} (hw : own_HW a0 Z) : (Cond.privateMethod ⟨"com/example/valbonne/valbonne/codec/AttributeCodings$Coding", "clear", "(Lcom/example/valbonne/valbonne/codec/DeclaredAttributes;ZI)V"⟩).before a0 Z = true := own_at hw 165 rfl
theorem own_w164 {a0 Z} (hw : own_HW a0 Z) : (Cond.instanceMethod ⟨"com/example/valbonne/valbonne/codec/AttributeCodings$Coding", "clear", "(Lcom/example/valbonne/valbonne/codec/DeclaredAttributes;ZI)V"⟩).before a0 Z = true := own_at hw 164 rfl
theorem own_w115 {a0 Z} (hw : own_HW a0 Z) : (Cond.methodLink "com/example/valbonne/valbonne/codec/AttributeCodings" (59 : Nat) ⟨"com/example/valbonne/valbonne/codec/StreamInput", "position", "()J"⟩).before a0 Z = true := own_at hw 115 rfl
theorem own_w119 {a0 Z} (hw : own_HW a0 Z) : (Cond.code ⟨"com/example/valbonne/valbonne/codec/StreamInput", "position", "()J"⟩ prog_83_method_7_code (1 : Nat) (some FieldType.long)).before a0 Z = true := own_at hw 119 rfl
theorem pd_10 : parseMethodDescriptor "()J" = some ⟨[], some .long⟩ := by decide +kernel
theorem own_w118 {a0 Z} (hw : own_HW a0 Z) : (Cond.selects "com/example/valbonne/valbonne/codec/StreamInput" ⟨"com/example/valbonne/valbonne/codec/StreamInput", "position", "()J"⟩ ⟨"com/example/valbonne/valbonne/codec/StreamInput", "position", "()J"⟩).before a0 Z = true := own_at hw 118 rfl
theorem own_w116 {a0 Z} (hw : own_HW a0 Z) : (Cond.declares ⟨"com/example/valbonne/valbonne/codec/StreamInput", "position", "()J"⟩).before a0 Z = true := own_at hw 116 rfl
theorem own_w117 {a0 Z} (hw : own_HW a0 Z) : (Cond.instanceMethod ⟨"com/example/valbonne/valbonne/codec/StreamInput", "position", "()J"⟩).before a0 Z = true := own_at hw 117 rfl
theorem own_w124 {a0 Z} (hw : own_HW a0 Z) : (Cond.fieldLink "com/example/valbonne/valbonne/codec/AttributeCodings" (63 : Nat) "com/example/valbonne/valbonne/codec/AttributeCodings" "readFrom" "J").before a0 Z = true := own_at hw 124 rfl
theorem d19_0 : decode prog_11_method_3_code 0 = .ok (.aload_n 0, 1) := by decide +kernel
theorem d19_1 : decode prog_11_method_3_code 1 = .ok (.getfield 11, 3) := by decide +kernel
theorem d19_4 : decode prog_11_method_3_code 4 = .ok (.aload_n 0, 1) := by decide +kernel
theorem d19_5 : decode prog_11_method_3_code 5 = .ok (.getfield 48, 3) := by decide +kernel
theorem d19_8 : decode prog_11_method_3_code 8 = .ok (.aaload, 1) := by decide +kernel
theorem d19_9 : decode prog_11_method_3_code 9 = .ok (.ifnonnull 19, 3) := by decide +kernel
theorem d19_12 : decode prog_11_method_3_code 12 = .ok (.aload_n 0, 1) := by decide +kernel
theorem d19_13 : decode prog_11_method_3_code 13 = .ok (.getfield 11, 3) := by decide +kernel
theorem d19_16 : decode prog_11_method_3_code 16 = .ok (.aload_n 0, 1) := by decide +kernel
theorem d19_17 : decode prog_11_method_3_code 17 = .ok (.getfield 48, 3) := by decide +kernel
theorem d19_20 : decode prog_11_method_3_code 20 = .ok (.new 9, 3) := by decide +kernel
theorem d19_23 : decode prog_11_method_3_code 23 = .ok (.dup, 1) := by decide +kernel
theorem d19_24 : decode prog_11_method_3_code 24 = .ok (.invokespecial 51, 3) := by decide +kernel
theorem d19_27 : decode prog_11_method_3_code 27 = .ok (.aastore, 1) := by decide +kernel
theorem d19_28 : decode prog_11_method_3_code 28 = .ok (.aload_n 0, 1) := by decide +kernel
theorem d19_29 : decode prog_11_method_3_code 29 = .ok (.aload_n 0, 1) := by decide +kernel
theorem d19_30 : decode prog_11_method_3_code 30 = .ok (.getfield 11, 3) := by decide +kernel
theorem d19_33 : decode prog_11_method_3_code 33 = .ok (.aload_n 0, 1) := by decide +kernel
theorem d19_34 : decode prog_11_method_3_code 34 = .ok (.getfield 48, 3) := by decide +kernel
theorem d19_37 : decode prog_11_method_3_code 37 = .ok (.aaload, 1) := by decide +kernel
theorem d19_38 : decode prog_11_method_3_code 38 = .ok (.putfield 52, 3) := by decide +kernel
theorem d19_41 : decode prog_11_method_3_code 41 = .ok (.aload_n 0, 1) := by decide +kernel
theorem d19_42 : decode prog_11_method_3_code 42 = .ok (.getfield 52, 3) := by decide +kernel
theorem d19_45 : decode prog_11_method_3_code 45 = .ok (.aload_n 2, 1) := by decide +kernel
theorem d19_46 : decode prog_11_method_3_code 46 = .ok (.iload_n 3, 1) := by decide +kernel
theorem d19_47 : decode prog_11_method_3_code 47 = .ok (.aload_n 1, 1) := by decide +kernel
theorem d19_48 : decode prog_11_method_3_code 48 = .ok (.invokevirtual 25, 3) := by decide +kernel
theorem d19_51 : decode prog_11_method_3_code 51 = .ok (.invokevirtual 55, 3) := by decide +kernel
theorem d19_54 : decode prog_11_method_3_code 54 = .ok (.aload_n 0, 1) := by decide +kernel
theorem d19_55 : decode prog_11_method_3_code 55 = .ok (.aload_n 1, 1) := by decide +kernel
theorem d19_56 : decode prog_11_method_3_code 56 = .ok (.invokevirtual 59, 3) := by decide +kernel
theorem d19_59 : decode prog_11_method_3_code 59 = .ok (.putfield 63, 3) := by decide +kernel
theorem d19_62 : decode prog_11_method_3_code 62 = .ok (.return_, 1) := by decide +kernel
theorem ef_19 (m : MethodId) (x0 : Addr) (x1 : Addr) (x3 : Int32) : entryFrame m #[(.ref x0), (.ref x1), .null, (.int x3)] 4 = mkF m 0 #[.val (.ref x0), .val (.ref x1), .val .null, .val (.int x3)] [] := by first | (simp [entryFrame, mkF, argsToLocals, Value.category]; done) | rfl
def Q19 (Z : State) (a1 : Addr) (a2 : Addr) (ka : Addr) (kk : ClassId) (h0 : Heap) (n0 : Nat) (v : Option Value) (h : Heap) (L : List Loc) : Prop := ∃ z0 : Addr, ∃ y1 : Addr, ∃ ky1 : ClassId, ∃ y2 : Addr, ∃ ky2 : ClassId, ∃ y3 : Addr, ∃ ky3 : ClassId, v = none ∧ Fr n0 L ∧ Keep h0 h [a1, ka] ∧ n0 ≤ z0 ∧ h0.size ≤ z0 ∧ n0 ≤ y1 ∧ h0.size ≤ y1 ∧ z0 ≠ y1 ∧ n0 ≤ y2 ∧ h0.size ≤ y2 ∧ z0 ≠ y2 ∧ y1 ≠ y2 ∧ n0 ≤ y3 ∧ h0.size ≤ y3 ∧ z0 ≠ y3 ∧ y1 ≠ y3 ∧ y2 ≠ y3 ∧ Fld Z h a1 own_AC "kept" "[Lcom/example/valbonne/valbonne/codec/AttributeCodings$Coding;" (.ref ka) ∧ Fld Z h a1 own_AC "oldest" "I" (.int (0 : Int32)) ∧ Fld Z h a1 own_AC "reading" "Lcom/example/valbonne/valbonne/codec/AttributeCodings$Coding;" (.ref z0) ∧ Fld Z h a1 own_AC "readFrom" "J" (.long (0 : Int64)) ∧ Arv Z h ka kk (.object own_CO) (16 : Int32) [(.ref z0), .null, .null, .null, .null, .null, .null, .null, .null, .null, .null, .null, .null, .null, .null, .null] .null ∧ Exa Z h z0 own_CO ∧ Fld Z h z0 own_CO "declared" "Lcom/example/valbonne/valbonne/codec/DeclaredAttributes;" .null ∧ Fld Z h z0 own_CO "loose" "Z" (.int (1 : Int32)) ∧ Fld Z h z0 own_CO "page" "I" (.int (0 : Int32)) ∧ Fld Z h z0 own_CO "endPage" "I" (.int (0 : Int32)) ∧ Fld Z h z0 own_CO "bytes" "[B" (.ref y1) ∧ Fld Z h z0 own_CO "length" "I" (.int (0 : Int32)) ∧ Fld Z h z0 own_CO "names" "[Lcom/example/valbonne/valbonne/codec/Name;" (.ref y2) ∧ Fld Z h z0 own_CO "values" "[Ljava/lang/String;" (.ref y3) ∧ Fld Z h z0 own_CO "size" "I" (.int (0 : Int32)) ∧ Fld Z h z0 own_CO "known" "Z" (.int (0 : Int32)) ∧ Arv Z h y1 ky1 .byte (64 : Int32) [] (.int (0 : Int32)) ∧ Arv Z h y2 ky2 (.object own_NM) (16 : Int32) [.null, .null, .null, .null, .null, .null, .null, .null, .null, .null, .null, .null, .null, .null, .null, .null] .null ∧ Ovr Z ky2 own_NM ∧ Arv Z h y3 ky3 (.object "java/lang/String") (16 : Int32) [.null, .null, .null, .null, .null, .null, .null, .null, .null, .null, .null, .null, .null, .null, .null, .null] .null ∧ Ovr Z ky3 "java/lang/String"
abbrev R19 : Room := { frames := 2, cells := 4, slots := 106, locals := 27 }
set_option maxRecDepth 65536 in
set_option maxHeartbeats 40000000 in
theorem rm19 (l : Launch) (Z : State) (a0 : Array Value) (hw : ∀ d ∈ tables_1, d.before a0 Z = true) (ws : List Jvm.Cond) (a1 : Addr) (a2 : Addr) (ka : Addr) (kk : ClassId) (h0 : Heap) (n0 : Nat) (Z0 : n0 ≤ h0.size) (E_a1 : Exa Z h0 a1 own_AC) (g_a1 : n0 ≤ a1) (g_ka : n0 ≤ ka) (ne_a1_ka : a1 ≠ ka) (ne_a1_a2 : a1 ≠ a2) (ne_ka_a2 : ka ≠ a2) (V_ka : Arv Z h0 ka kk (.object own_CO) (16 : Int32) [.null, .null, .null, .null, .null, .null, .null, .null, .null, .null, .null, .null, .null, .null, .null, .null] .null) (O_ka : Ovr Z kk own_CO) (E_a2 : Exa Z h0 a2 own_SI) (F_kept_a1 : Fld Z h0 a1 own_AC "kept" "[Lcom/example/valbonne/valbonne/codec/AttributeCodings$Coding;" (.ref ka)) (F_oldest_a1 : Fld Z h0 a1 own_AC "oldest" "I" (.int (0 : Int32))) (F_reading_a1 : Fld Z h0 a1 own_AC "reading" "Lcom/example/valbonne/valbonne/codec/AttributeCodings$Coding;" .null) (F_readFrom_a1 : Fld Z h0 a1 own_AC "readFrom" "J" (.long (0 : Int64))) (F_pos_a2 : Fld Z h0 a2 own_SI "pos" "I" (.int (0 : Int32))) (F_offset_a2 : Fld Z h0 a2 own_SI "offset" "J" (.long (0 : Int64))) (F_attributePage_a2 : Fld Z h0 a2 own_SI "attributePage" "I" (.int (0 : Int32))) :
    MetFree l (⟨own_AC, "begin", "(Lcom/example/valbonne/valbonne/codec/StreamInput;Lcom/example/valbonne/valbonne/codec/DeclaredAttributes;Z)V"⟩ : MethodName) (head1 (Jvm.Cond.code (⟨own_AC, "begin", "(Lcom/example/valbonne/valbonne/codec/StreamInput;Lcom/example/valbonne/valbonne/codec/DeclaredAttributes;Z)V"⟩ : MethodName) prog_11_method_3_code 4 none :: ws) R19) (fun a U => a = #[(.ref a1), (.ref a2), .null, (.int (1 : Int32))] ∧ Z.Warmed39 U.vm ∧ U.heap = h0) (fun _ _ _ _ _ => True) (fun _ U o U' => ∃ v L, o = .returned v ∧ Q19 Z a1 a2 ka kk h0 n0 v U'.heap L ∧ FrameEnd U o U' L R19.cells R19.slots) := by
  refine MetFree.of_bodySF (plainFor_of_name pn_4) hisR ?_
  intro p e s m args below meth c s₁ Bd hml0 hP hK
  obtain ⟨rfl, hZ, hh⟩ := hP
  have hx := Bd.exec
  have hby := Bd.bytes
  have hlk : meth.locks = false := BodyLoose.notSynchronized Bd
  have hml : c.maxLocals = 4 := hml0
  have hown : s.vm.findClass own_AC = some m.cls := findClass_of_methodNamed Bd.named
  have hnm := (name_of_methodNamed Bd.named Bd.method).1
  have X0 : Stand p l e R19 s m #[(.ref a1), (.ref a2), .null, (.int (1 : Int32))] below meth c s₁ [] 0 0 := Stand.of_body Bd
  have e0 : s₁.heap = h0 := by rw [← hh, Bd.state]; rfl
  have N0 := Fr.nil n0
  show own_Goes p e below s (Q19 Z a1 a2 ka kk h0 n0) R19.cells R19.slots s₁ (entryFrame m #[(.ref a1), (.ref a2), .null, (.int (1 : Int32))] 4)
  rw [ef_19 m a1 a2 (1 : Int32)]
  refine own_step (f' := (mkF m 1 #[.val (.ref a1), .val (.ref a2), .val .null, .val (.int (1 : Int32))] [(.ref a1)])) (fun _ k => XS.aloadN X0.here hx rfl (hb hby d19_0) rfl rfl k) ?_
  obtain ⟨T1, X1, e1, st1⟩ := getF X0 hx hZ hown (host := "") (Or.inl (own_w67 hw)) Via.refl e0 F_kept_a1 (g := (mkF m 1 #[.val (.ref a1), .val (.ref a2), .val .null, .val (.int (1 : Int32))] [(.ref a1)])) rfl rfl (hb hby d19_1)
  refine own_step (f' := (mkF m 4 #[.val (.ref a1), .val (.ref a2), .val .null, .val (.int (1 : Int32))] [(.ref ka)])) st1 ?_
  refine own_step (f' := (mkF m 5 #[.val (.ref a1), .val (.ref a2), .val .null, .val (.int (1 : Int32))] [(.ref a1), (.ref ka)])) (fun _ k => XS.aloadN X1.here hx rfl (hb hby d19_4) rfl rfl k) ?_
  obtain ⟨T2, X2, e2, st2⟩ := getF X1 hx hZ hown (host := "") (Or.inl (own_w145 hw)) Via.refl e1 F_oldest_a1 (g := (mkF m 5 #[.val (.ref a1), .val (.ref a2), .val .null, .val (.int (1 : Int32))] [(.ref a1), (.ref ka)])) rfl rfl (hb hby d19_5)
  refine own_step (f' := (mkF m 8 #[.val (.ref a1), .val (.ref a2), .val .null, .val (.int (1 : Int32))] [(.int (0 : Int32)), (.ref ka)])) st2 ?_
  obtain ⟨cl3, Ar3, qa3, Sa3, Na3, Ha3, Ga3⟩ := id (V_ka)
  have hin4 : ¬ ((0 : Int32) < 0 ∨ cl3.slots.size ≤ ((0 : Int32)).toNatClampNeg) := inb_of Sa3 ⟨by decide, by decide⟩
  refine own_step (f' := (mkF m 9 #[.val (.ref a1), .val (.ref a2), .val .null, .val (.int (1 : Int32))] [.null])) (fun _ k => X2.aaload hx (j := (0 : Int32)) (v := .null) (by rw [e2]; exact Ar3.1) (State.isArrayOf_alike hZ.alike Ar3.2.1) rfl Ar3.2.2 hin4 (Ha3.at hin4 rfl) (g := (mkF m 8 #[.val (.ref a1), .val (.ref a2), .val .null, .val (.int (1 : Int32))] [(.int (0 : Int32)), (.ref ka)])) rfl rfl (hb hby d19_8) _ k) ?_
  refine own_step (f' := (mkF m 12 #[.val (.ref a1), .val (.ref a2), .val .null, .val (.int (1 : Int32))] [])) (fun _ k => XS.ifnonnullNo X2.here hx rfl (hb hby d19_9) rfl k) ?_
  refine own_step (f' := (mkF m 13 #[.val (.ref a1), .val (.ref a2), .val .null, .val (.int (1 : Int32))] [(.ref a1)])) (fun _ k => XS.aloadN X2.here hx rfl (hb hby d19_12) rfl rfl k) ?_
  obtain ⟨T5, X5, e5, st5⟩ := getF X2 hx hZ hown (host := "") (Or.inl (own_w67 hw)) Via.refl e2 F_kept_a1 (g := (mkF m 13 #[.val (.ref a1), .val (.ref a2), .val .null, .val (.int (1 : Int32))] [(.ref a1)])) rfl rfl (hb hby d19_13)
  refine own_step (f' := (mkF m 16 #[.val (.ref a1), .val (.ref a2), .val .null, .val (.int (1 : Int32))] [(.ref ka)])) st5 ?_
  refine own_step (f' := (mkF m 17 #[.val (.ref a1), .val (.ref a2), .val .null, .val (.int (1 : Int32))] [(.ref a1), (.ref ka)])) (fun _ k => XS.aloadN X5.here hx rfl (hb hby d19_16) rfl rfl k) ?_
  obtain ⟨T6, X6, e6, st6⟩ := getF X5 hx hZ hown (host := "") (Or.inl (own_w145 hw)) Via.refl e5 F_oldest_a1 (g := (mkF m 17 #[.val (.ref a1), .val (.ref a2), .val .null, .val (.int (1 : Int32))] [(.ref a1), (.ref ka)])) rfl rfl (hb hby d19_17)
  refine own_step (f' := (mkF m 20 #[.val (.ref a1), .val (.ref a2), .val .null, .val (.int (1 : Int32))] [(.int (0 : Int32)), (.ref ka)])) st6 ?_
  obtain ⟨T7, h7, X7, e7, E7, A7, D7, -, st7⟩ := newO X6 hx hZ hown (own_w65 hw) (own_w147 hw) (own_w148 hw) e6 (g := (mkF m 20 #[.val (.ref a1), .val (.ref a2), .val .null, .val (.int (1 : Int32))] [(.int (0 : Int32)), (.ref ka)])) rfl (hb hby d19_20) (by decide) (by decide)
  obtain ⟨b7, g7⟩ : ∃ z, z = h0.size := ⟨_, rfl⟩
  rw [← g7] at A7 D7 st7
  have ne_a1_b7 : a1 ≠ b7 := Nat.ne_of_lt (Nat.lt_of_lt_of_le E_a1.lt (Nat.le_of_eq g7.symm))
  have ne_ka_b7 : ka ≠ b7 := Nat.ne_of_lt (Nat.lt_of_lt_of_le V_ka.lt (Nat.le_of_eq g7.symm))
  have ne_a2_b7 : a2 ≠ b7 := Nat.ne_of_lt (Nat.lt_of_lt_of_le E_a2.lt (Nat.le_of_eq g7.symm))
  have g_b7 : n0 ≤ b7 := Nat.le_trans Z0 (Nat.le_of_eq g7.symm)
  have sz_b7 : h0.size ≤ b7 := Nat.le_trans (Keep.refl h0 [a1, ka]).1 (Nat.le_of_eq g7.symm)
  have F_bytes_b7 : Fld Z h7 b7 own_CO "bytes" "[B" .null := D7 (Or.inr (own_w154 hw)) own_fd_0
  have F_names_b7 : Fld Z h7 b7 own_CO "names" "[Lcom/example/valbonne/valbonne/codec/Name;" .null := D7 (Or.inr (own_w157 hw)) own_fd_8
  have F_values_b7 : Fld Z h7 b7 own_CO "values" "[Ljava/lang/String;" .null := D7 (Or.inr (own_w161 hw)) own_fd_11
  have F_declared_b7 : Fld Z h7 b7 own_CO "declared" "Lcom/example/valbonne/valbonne/codec/DeclaredAttributes;" .null := D7 (Or.inl (own_w168 hw)) own_fd_9
  have F_loose_b7 : Fld Z h7 b7 own_CO "loose" "Z" (.int (0 : Int32)) := D7 (Or.inl (own_w170 hw)) own_fd_10
  have F_page_b7 : Fld Z h7 b7 own_CO "page" "I" (.int (0 : Int32)) := D7 (Or.inl (own_w172 hw)) own_fd_2
  have F_size_b7 : Fld Z h7 b7 own_CO "size" "I" (.int (0 : Int32)) := D7 (Or.inl (own_w174 hw)) own_fd_2
  have F_known_b7 : Fld Z h7 b7 own_CO "known" "Z" (.int (0 : Int32)) := D7 (Or.inl (own_w176 hw)) own_fd_10
  have F_length_b7 : Fld Z h7 b7 own_CO "length" "I" (.int (0 : Int32)) := D7 (Or.inl (own_w188 hw)) own_fd_2
  have F_endPage_b7 : Fld Z h7 b7 own_CO "endPage" "I" (.int (0 : Int32)) := D7 (Or.inl (own_w200 hw)) own_fd_2
  refine own_step (f' := (mkF m 23 #[.val (.ref a1), .val (.ref a2), .val .null, .val (.int (1 : Int32))] [(.ref b7), (.int (0 : Int32)), (.ref ka)])) st7 ?_
  refine own_step (f' := (mkF m 24 #[.val (.ref a1), .val (.ref a2), .val .null, .val (.int (1 : Int32))] [(.ref b7), (.ref b7), (.int (0 : Int32)), (.ref ka)])) (fun _ k => XS.dup X7.here hx rfl (hb hby d19_23) rfl rfl k) ?_
  have Zq8 : n0 ≤ h7.size := (Nat.le_trans Z0 E7.1)
  obtain ⟨_, _, ⟨T8, L8, k8, n8⟩, -, X8, ⟨Lc8, hQ8, l8, y8, z8⟩, st8⟩ := X7.specialBack hx (y := (⟨own_CO, "<init>", "()V"⟩ : MethodName)) rfl hown (mvT hZ (own_w149 hw)) (mvT hZ (own_w150 hw)) (mvT hZ (own_w151 hw)) (by decide) (backOf (W := 3) (rm20 l Z a0 hw [] b7 .null .null .null h7 n0 Zq8 A7 g_b7 F_declared_b7 F_loose_b7 F_page_b7 F_endPage_b7 F_bytes_b7 F_length_b7 F_names_b7 F_values_b7 F_size_b7 F_known_b7) hZ (own_w151 hw) (own_w148 hw) (by decide) (by decide)) (g := (mkF m 24 #[.val (.ref a1), .val (.ref a2), .val .null, .val (.int (1 : Int32))] [(.ref b7), (.ref b7), (.int (0 : Int32)), (.ref ka)])) rfl (by rw [hml]; rfl) (Steps.refl _) (a := b7) (argsL := []) (rest := [(.ref b7), (.int (0 : Int32)), (.ref ka)]) (lenOf pd_7 rfl) rfl (by show 2 * 0 + _ ≤ _; exact Nat.le_of_eq rfl) (hb hby d19_24) (fun _ _ => ⟨rfl, e7, (by decide : 1 + 3 ≤ _), (by decide : 10 + 96 ≤ _)⟩)
  dsimp only [Pt.U, Pt.locs, Pt.cells, Pt.slots] at X8 l8 y8 z8 st8 hQ8
  subst l8 y8 z8
  obtain ⟨y1_8, ky1_8, y2_8, ky2_8, y3_8, ky3_8, rfl, Nq8, K8, g_y1_8, sq_y1_8, g_y2_8, sq_y2_8, ne_y1_8_y2_8, g_y3_8, sq_y3_8, ne_y1_8_y3_8, ne_y2_8_y3_8, P8_0, P8_1, P8_2, P8_3, P8_4, P8_5, P8_6, P8_7, P8_8, P8_9, P8_10, P8_11, P8_12, P8_13, P8_14⟩ := hQ8
  obtain ⟨Lo8, X8, N8⟩ : ∃ K, Stand p l e R19 s m #[(.ref a1), (.ref a2), .null, (.int (1 : Int32))] below meth c T8 K 4 106 ∧ Fr n0 K := ⟨_, X8, (Fr.app N0 Nq8)⟩
  have ne_a1_y1_8 : a1 ≠ y1_8 := Nat.ne_of_lt (Nat.lt_of_lt_of_le (E_a1.ext E7).lt sq_y1_8)
  have ne_ka_y1_8 : ka ≠ y1_8 := Nat.ne_of_lt (Nat.lt_of_lt_of_le (V_ka.ext E7).lt sq_y1_8)
  have ne_a2_y1_8 : a2 ≠ y1_8 := Nat.ne_of_lt (Nat.lt_of_lt_of_le (E_a2.ext E7).lt sq_y1_8)
  have ne_b7_y1_8 : b7 ≠ y1_8 := Nat.ne_of_lt (Nat.lt_of_lt_of_le A7.lt sq_y1_8)
  have sz_y1_8 : h0.size ≤ y1_8 := Nat.le_trans ((Keep.refl h0 [a1, ka]).ext E7).1 sq_y1_8
  have ne_a1_y2_8 : a1 ≠ y2_8 := Nat.ne_of_lt (Nat.lt_of_lt_of_le (E_a1.ext E7).lt sq_y2_8)
  have ne_ka_y2_8 : ka ≠ y2_8 := Nat.ne_of_lt (Nat.lt_of_lt_of_le (V_ka.ext E7).lt sq_y2_8)
  have ne_a2_y2_8 : a2 ≠ y2_8 := Nat.ne_of_lt (Nat.lt_of_lt_of_le (E_a2.ext E7).lt sq_y2_8)
  have ne_b7_y2_8 : b7 ≠ y2_8 := Nat.ne_of_lt (Nat.lt_of_lt_of_le A7.lt sq_y2_8)
  have sz_y2_8 : h0.size ≤ y2_8 := Nat.le_trans ((Keep.refl h0 [a1, ka]).ext E7).1 sq_y2_8
  have ne_a1_y3_8 : a1 ≠ y3_8 := Nat.ne_of_lt (Nat.lt_of_lt_of_le (E_a1.ext E7).lt sq_y3_8)
  have ne_ka_y3_8 : ka ≠ y3_8 := Nat.ne_of_lt (Nat.lt_of_lt_of_le (V_ka.ext E7).lt sq_y3_8)
  have ne_a2_y3_8 : a2 ≠ y3_8 := Nat.ne_of_lt (Nat.lt_of_lt_of_le (E_a2.ext E7).lt sq_y3_8)
  have ne_b7_y3_8 : b7 ≠ y3_8 := Nat.ne_of_lt (Nat.lt_of_lt_of_le A7.lt sq_y3_8)
  have sz_y3_8 : h0.size ≤ y3_8 := Nat.le_trans ((Keep.refl h0 [a1, ka]).ext E7).1 sq_y3_8
  refine own_jump (f' := (mkF m 27 #[.val (.ref a1), .val (.ref a2), .val .null, .val (.int (1 : Int32))] [(.ref b7), (.int (0 : Int32)), (.ref ka)])) st8 ?_
  obtain ⟨cl9, Ar9, qa9, Sa9, Na9, Ha9, Ga9⟩ := id (((V_ka.ext E7).keep K8 (ninS ne_ka_b7 nin0)))
  have hin10 : ¬ ((0 : Int32) < 0 ∨ cl9.slots.size ≤ ((0 : Int32)).toNatClampNeg) := inb_of Sa9 ⟨by decide, by decide⟩
  obtain ⟨T10, h10, X10, e10, W10, st10⟩ := stR X8 hx hZ rfl Ar9 (j := (0 : Int32)) hin10 rfl (Sto.ofV Ar9 qa9 O_ka (Ins.self (A7.keep K8))) (g := (mkF m 27 #[.val (.ref a1), .val (.ref a2), .val .null, .val (.int (1 : Int32))] [(.ref b7), (.int (0 : Int32)), (.ref ka)])) rfl rfl (hb hby d19_27)
  have V10 : Arv Z h10 ka kk (.object own_CO) (16 : Int32) [(.ref b7), .null, .null, .null, .null, .null, .null, .null, .null, .null, .null, .null, .null, .null, .null, .null] .null := Arv.set Ar9 qa9 Sa9 Na9 Ha9 Ga9 rfl W10 0 rfl (Nat.le_of_ble_eq_true rfl)
  obtain ⟨Lo10, X10, N10⟩ : ∃ K, Stand p l e R19 s m #[(.ref a1), (.ref a2), .null, (.int (1 : Int32))] below meth c T10 K 4 106 ∧ Fr n0 K := ⟨_, X10, (Fr.snoc X10 N8 g_ka)⟩
  refine own_step (f' := (mkF m 28 #[.val (.ref a1), .val (.ref a2), .val .null, .val (.int (1 : Int32))] [])) st10 ?_
  refine own_step (f' := (mkF m 29 #[.val (.ref a1), .val (.ref a2), .val .null, .val (.int (1 : Int32))] [(.ref a1)])) (fun _ k => XS.aloadN X10.here hx rfl (hb hby d19_28) rfl rfl k) ?_
  refine own_step (f' := (mkF m 30 #[.val (.ref a1), .val (.ref a2), .val .null, .val (.int (1 : Int32))] [(.ref a1), (.ref a1)])) (fun _ k => XS.aloadN X10.here hx rfl (hb hby d19_29) rfl rfl k) ?_
  obtain ⟨T11, X11, e11, st11⟩ := getF X10 hx hZ hown (host := "") (Or.inl (own_w67 hw)) Via.refl e10 (((F_kept_a1.ext E7).keep K8 (ninS ne_a1_b7 nin0)).other W10 (Or.inl ne_a1_ka)) (g := (mkF m 30 #[.val (.ref a1), .val (.ref a2), .val .null, .val (.int (1 : Int32))] [(.ref a1), (.ref a1)])) rfl rfl (hb hby d19_30)
  refine own_step (f' := (mkF m 33 #[.val (.ref a1), .val (.ref a2), .val .null, .val (.int (1 : Int32))] [(.ref ka), (.ref a1)])) st11 ?_
  refine own_step (f' := (mkF m 34 #[.val (.ref a1), .val (.ref a2), .val .null, .val (.int (1 : Int32))] [(.ref a1), (.ref ka), (.ref a1)])) (fun _ k => XS.aloadN X11.here hx rfl (hb hby d19_33) rfl rfl k) ?_
  obtain ⟨T12, X12, e12, st12⟩ := getF X11 hx hZ hown (host := "") (Or.inl (own_w145 hw)) Via.refl e11 (((F_oldest_a1.ext E7).keep K8 (ninS ne_a1_b7 nin0)).other W10 (Or.inl ne_a1_ka)) (g := (mkF m 34 #[.val (.ref a1), .val (.ref a2), .val .null, .val (.int (1 : Int32))] [(.ref a1), (.ref ka), (.ref a1)])) rfl rfl (hb hby d19_34)
  refine own_step (f' := (mkF m 37 #[.val (.ref a1), .val (.ref a2), .val .null, .val (.int (1 : Int32))] [(.int (0 : Int32)), (.ref ka), (.ref a1)])) st12 ?_
  obtain ⟨cl13, Ar13, qa13, Sa13, Na13, Ha13, Ga13⟩ := id (V10)
  have hin14 : ¬ ((0 : Int32) < 0 ∨ cl13.slots.size ≤ ((0 : Int32)).toNatClampNeg) := inb_of Sa13 ⟨by decide, by decide⟩
  refine own_step (f' := (mkF m 38 #[.val (.ref a1), .val (.ref a2), .val .null, .val (.int (1 : Int32))] [(.ref b7), (.ref a1)])) (fun _ k => X12.aaload hx (j := (0 : Int32)) (v := (.ref b7)) (by rw [e12]; exact Ar13.1) (State.isArrayOf_alike hZ.alike Ar13.2.1) rfl Ar13.2.2 hin14 (Ha13.at hin14 rfl) (g := (mkF m 37 #[.val (.ref a1), .val (.ref a2), .val .null, .val (.int (1 : Int32))] [(.int (0 : Int32)), (.ref ka), (.ref a1)])) rfl rfl (hb hby d19_37) _ k) ?_
  obtain ⟨T15, h15, X15, e15, W15, st15⟩ := putF X12 hx hZ hown (host := "") (Or.inl (own_w126 hw)) Via.refl e12 (((F_reading_a1.ext E7).keep K8 (ninS ne_a1_b7 nin0)).other W10 (Or.inl ne_a1_ka)) (((E_a1.ext E7).keep K8).wr W10) (Or.inl (own_w127 hw)) (own_w59 hw) own_fd_5 rfl rfl (g := (mkF m 38 #[.val (.ref a1), .val (.ref a2), .val .null, .val (.int (1 : Int32))] [(.ref b7), (.ref a1)])) rfl rfl (hb hby d19_38)
  obtain ⟨Lo15, X15, N15⟩ : ∃ K, Stand p l e R19 s m #[(.ref a1), (.ref a2), .null, (.int (1 : Int32))] below meth c T15 K 4 106 ∧ Fr n0 K := ⟨_, X15, (Fr.snoc X15 N10 g_a1)⟩
  refine own_step (f' := (mkF m 41 #[.val (.ref a1), .val (.ref a2), .val .null, .val (.int (1 : Int32))] [])) st15 ?_
  refine own_step (f' := (mkF m 42 #[.val (.ref a1), .val (.ref a2), .val .null, .val (.int (1 : Int32))] [(.ref a1)])) (fun _ k => XS.aloadN X15.here hx rfl (hb hby d19_41) rfl rfl k) ?_
  obtain ⟨T16, X16, e16, st16⟩ := getF X15 hx hZ hown (host := "") (Or.inl (own_w126 hw)) Via.refl e15 ((((F_reading_a1.ext E7).keep K8 (ninS ne_a1_b7 nin0)).other W10 (Or.inl ne_a1_ka)).same W15) (g := (mkF m 42 #[.val (.ref a1), .val (.ref a2), .val .null, .val (.int (1 : Int32))] [(.ref a1)])) rfl rfl (hb hby d19_42)
  refine own_step (f' := (mkF m 45 #[.val (.ref a1), .val (.ref a2), .val .null, .val (.int (1 : Int32))] [(.ref b7)])) st16 ?_
  refine own_step (f' := (mkF m 46 #[.val (.ref a1), .val (.ref a2), .val .null, .val (.int (1 : Int32))] [.null, (.ref b7)])) (fun _ k => XS.aloadN X16.here hx rfl (hb hby d19_45) rfl rfl k) ?_
  refine own_step (f' := (mkF m 47 #[.val (.ref a1), .val (.ref a2), .val .null, .val (.int (1 : Int32))] [(.int (1 : Int32)), .null, (.ref b7)])) (fun _ k => XS.iloadN X16.here hx rfl (hb hby d19_46) rfl k) ?_
  refine own_step (f' := (mkF m 48 #[.val (.ref a1), .val (.ref a2), .val .null, .val (.int (1 : Int32))] [(.ref a2), (.int (1 : Int32)), .null, (.ref b7)])) (fun _ k => XS.aloadN X16.here hx rfl (hb hby d19_47) rfl rfl k) ?_
  have Zq17 : n0 ≤ h15.size := (Nat.le_trans (Nat.le_trans (Nat.le_trans (Nat.le_trans Z0 E7.1) K8.1) (Nat.le_of_eq W10.size.symm)) (Nat.le_of_eq W15.size.symm))
  obtain ⟨cq17, kq17, q17a, q17b, q17c⟩ := isOf hZ e16 ((((E_a2.ext E7).keep K8).wr W10).wr W15)
  obtain ⟨_, _, ⟨T17, L17, k17, n17⟩, -, X17, ⟨Lc17, hQ17, l17, y17, z17⟩, st17⟩ := X16.virtualBack hx (y := (⟨own_SI, "attributePage", "()I"⟩ : MethodName)) (z := (⟨own_SI, "attributePage", "()I"⟩ : MethodName)) hown (mvT hZ (own_w133 hw)) (mvT hZ (own_w134 hw)) (notFace_of_selects (args := #[]) (mvT hZ (own_w136 hw))) (mvT hZ (own_w136 hw)) (mvT hZ (own_w135 hw)) (by decide) (backOf (W := 3) (rm18 l Z a0 hw [] a2 h15 n0 Zq17 ((((F_attributePage_a2.ext E7).keep K8 (ninS ne_a2_b7 nin0)).other W10 (Or.inl (Ne.symm ne_ka_a2))).other W15 (Or.inl (Ne.symm ne_a1_a2)))) hZ (own_w137 hw) (own_w71 hw) (by decide) (by decide)) q17a q17c (g := (mkF m 48 #[.val (.ref a1), .val (.ref a2), .val .null, .val (.int (1 : Int32))] [(.ref a2), (.int (1 : Int32)), .null, (.ref b7)])) rfl (by rw [hml]; rfl) (Steps.refl _) (argsL := []) (rest := [(.int (1 : Int32)), .null, (.ref b7)]) (lenOf pd_8 rfl) rfl (by show 2 * 0 + _ ≤ _; exact Nat.le_of_eq rfl) (hb hby d19_48) (fun _ _ => ⟨rfl, e16, (by decide : 4 + 0 ≤ _), (by decide : 106 + 0 ≤ _)⟩)
  dsimp only [Pt.U, Pt.locs, Pt.cells, Pt.slots] at X17 l17 y17 z17 st17 hQ17
  subst l17 y17 z17
  obtain ⟨rfl, rfl, e17⟩ := hQ17
  try rw [List.append_nil] at X17
  refine own_jump (f' := (mkF m 51 #[.val (.ref a1), .val (.ref a2), .val .null, .val (.int (1 : Int32))] [(.int (0 : Int32)), (.int (1 : Int32)), .null, (.ref b7)])) st17 ?_
  have Zq18 : n0 ≤ h15.size := (Nat.le_trans (Nat.le_trans (Nat.le_trans (Nat.le_trans Z0 E7.1) K8.1) (Nat.le_of_eq W10.size.symm)) (Nat.le_of_eq W15.size.symm))
  obtain ⟨cq18, q18, q18'⟩ := (((A7.keep K8).wr W10).wr W15).cell
  obtain ⟨_, ⟨T18, L18, k18, n18⟩, X18, ⟨Lc18, hQ18, l18, y18, z18⟩, st18⟩ := own_privR X17 hx hZ (y := (⟨own_CO, "clear", "(Lcom/example/valbonne/valbonne/codec/DeclaredAttributes;ZI)V"⟩ : MethodName)) hown (own_w163 hw) (mvT hZ (own_w164 hw)) (own_selPriv (y' := (⟨own_CO, "size", "()I"⟩ : MethodName)) (mvT hZ (own_w225 hw)) rfl (Cond.privateMethod_at (mvP hZ (own_w165 hw) (args := #[]))) (mvT hZ (own_w164 hw)) (by decide)) (Cond.privateMethod_at (mvP hZ (own_w165 hw) (args := #[]))) (mvT hZ (own_w166 hw)) (by decide) (backOf (W := 0) (rm21 l Z a0 hw [] b7 (.ref y1_8) (.ref y2_8) (.ref y3_8) h15 n0 Zq18 (((A7.keep K8).wr W10).wr W15) g_b7 ((P8_0.other W10 (Or.inl (Ne.symm ne_ka_b7))).other W15 (Or.inl (Ne.symm ne_a1_b7))) ((P8_1.other W10 (Or.inl (Ne.symm ne_ka_b7))).other W15 (Or.inl (Ne.symm ne_a1_b7))) ((P8_2.other W10 (Or.inl (Ne.symm ne_ka_b7))).other W15 (Or.inl (Ne.symm ne_a1_b7))) ((P8_3.other W10 (Or.inl (Ne.symm ne_ka_b7))).other W15 (Or.inl (Ne.symm ne_a1_b7))) ((P8_4.other W10 (Or.inl (Ne.symm ne_ka_b7))).other W15 (Or.inl (Ne.symm ne_a1_b7))) ((P8_5.other W10 (Or.inl (Ne.symm ne_ka_b7))).other W15 (Or.inl (Ne.symm ne_a1_b7))) ((P8_6.other W10 (Or.inl (Ne.symm ne_ka_b7))).other W15 (Or.inl (Ne.symm ne_a1_b7))) ((P8_7.other W10 (Or.inl (Ne.symm ne_ka_b7))).other W15 (Or.inl (Ne.symm ne_a1_b7))) ((P8_8.other W10 (Or.inl (Ne.symm ne_ka_b7))).other W15 (Or.inl (Ne.symm ne_a1_b7))) ((P8_9.other W10 (Or.inl (Ne.symm ne_ka_b7))).other W15 (Or.inl (Ne.symm ne_a1_b7)))) hZ (own_w166 hw) (own_w148 hw) (by decide) (by decide)) (g := (mkF m 51 #[.val (.ref a1), .val (.ref a2), .val .null, .val (.int (1 : Int32))] [(.int (0 : Int32)), (.int (1 : Int32)), .null, (.ref b7)])) rfl (by rw [hml]; rfl) (Steps.refl _) (a := b7) (by rw [e17]; exact q18) q18' (argsL := [.null, (.int (1 : Int32)), (.int (0 : Int32))]) (rest := []) (lenOf pd_9 rfl) rfl (by show 2 * 0 + _ ≤ _; exact Nat.le_of_eq rfl) (hb hby d19_51) ⟨rfl, e17, (by decide : 4 + 0 ≤ _), (by decide : 106 + 0 ≤ _)⟩
  dsimp only [Pt.U, Pt.locs, Pt.cells, Pt.slots] at X18 l18 y18 z18 st18 hQ18
  subst l18 y18 z18
  obtain ⟨rfl, Nq18, K18, P18_0, P18_1, P18_2, P18_3, P18_4, P18_5, P18_6, P18_7, P18_8, P18_9⟩ := hQ18
  obtain ⟨Lo18, X18, N18⟩ : ∃ K, Stand p l e R19 s m #[(.ref a1), (.ref a2), .null, (.int (1 : Int32))] below meth c T18 K 4 106 ∧ Fr n0 K := ⟨_, X18, (Fr.app N15 Nq18)⟩
  refine own_jump (f' := (mkF m 54 #[.val (.ref a1), .val (.ref a2), .val .null, .val (.int (1 : Int32))] [])) st18 ?_
  refine own_step (f' := (mkF m 55 #[.val (.ref a1), .val (.ref a2), .val .null, .val (.int (1 : Int32))] [(.ref a1)])) (fun _ k => XS.aloadN X18.here hx rfl (hb hby d19_54) rfl rfl k) ?_
  refine own_step (f' := (mkF m 56 #[.val (.ref a1), .val (.ref a2), .val .null, .val (.int (1 : Int32))] [(.ref a2), (.ref a1)])) (fun _ k => XS.aloadN X18.here hx rfl (hb hby d19_55) rfl rfl k) ?_
  have Zq19 : n0 ≤ T18.heap.size := (Nat.le_trans (Nat.le_trans (Nat.le_trans (Nat.le_trans (Nat.le_trans Z0 E7.1) K8.1) (Nat.le_of_eq W10.size.symm)) (Nat.le_of_eq W15.size.symm)) K18.1)
  obtain ⟨cq19, kq19, q19a, q19b, q19c⟩ := isOf hZ rfl (((((E_a2.ext E7).keep K8).wr W10).wr W15).keep K18)
  obtain ⟨_, _, ⟨T19, L19, k19, n19⟩, -, X19, ⟨Lc19, hQ19, l19, y19, z19⟩, st19⟩ := X18.virtualBack hx (y := (⟨own_SI, "position", "()J"⟩ : MethodName)) (z := (⟨own_SI, "position", "()J"⟩ : MethodName)) hown (mvT hZ (own_w115 hw)) (mvT hZ (own_w116 hw)) (notFace_of_selects (args := #[]) (mvT hZ (own_w118 hw))) (mvT hZ (own_w118 hw)) (mvT hZ (own_w117 hw)) (by decide) (backOf (W := 1) (rm16 l Z a0 hw [] a2 T18.heap n0 Zq19 (((((F_pos_a2.ext E7).keep K8 (ninS ne_a2_b7 nin0)).other W10 (Or.inl (Ne.symm ne_ka_a2))).other W15 (Or.inl (Ne.symm ne_a1_a2))).keep K18 (ninS ne_a2_b7 nin0)) (((((F_offset_a2.ext E7).keep K8 (ninS ne_a2_b7 nin0)).other W10 (Or.inl (Ne.symm ne_ka_a2))).other W15 (Or.inl (Ne.symm ne_a1_a2))).keep K18 (ninS ne_a2_b7 nin0))) hZ (own_w119 hw) (own_w71 hw) (by decide) (by decide)) q19a q19c (g := (mkF m 56 #[.val (.ref a1), .val (.ref a2), .val .null, .val (.int (1 : Int32))] [(.ref a2), (.ref a1)])) rfl (by rw [hml]; rfl) (Steps.refl _) (argsL := []) (rest := [(.ref a1)]) (lenOf pd_10 rfl) rfl (by show 2 * 0 + _ ≤ _; exact Nat.le_of_eq rfl) (hb hby d19_56) (fun _ _ => ⟨rfl, rfl, (by decide : 4 + 0 ≤ _), (by decide : 106 + 0 ≤ _)⟩)
  dsimp only [Pt.U, Pt.locs, Pt.cells, Pt.slots] at X19 l19 y19 z19 st19 hQ19
  subst l19 y19 z19
  obtain ⟨rfl, rfl, e19⟩ := hQ19
  try rw [List.append_nil] at X19
  refine own_jump (f' := (mkF m 59 #[.val (.ref a1), .val (.ref a2), .val .null, .val (.int (1 : Int32))] [(.long (0 : Int64)), (.ref a1)])) st19 ?_
  obtain ⟨T20, h20, X20, e20, W20, st20⟩ := putF X19 hx hZ hown (host := "") (Or.inl (own_w124 hw)) Via.refl e19 (((((F_readFrom_a1.ext E7).keep K8 (ninS ne_a1_b7 nin0)).other W10 (Or.inl ne_a1_ka)).other W15 (Or.inr (Jvm.RoadKit.slot_ne (Or.inl (own_w125 hw)) (Or.inl (own_w127 hw)) (by decide) own_fd_6 own_fd_5))).keep K18 (ninS ne_a1_b7 nin0)) (((((E_a1.ext E7).keep K8).wr W10).wr W15).keep K18) (Or.inl (own_w125 hw)) (own_w59 hw) own_fd_6 rfl rfl (g := (mkF m 59 #[.val (.ref a1), .val (.ref a2), .val .null, .val (.int (1 : Int32))] [(.long (0 : Int64)), (.ref a1)])) rfl rfl (hb hby d19_59)
  obtain ⟨Lo20, X20, N20⟩ : ∃ K, Stand p l e R19 s m #[(.ref a1), (.ref a2), .null, (.int (1 : Int32))] below meth c T20 K 4 106 ∧ Fr n0 K := ⟨_, X20, (Fr.snoc X20 N18 g_a1)⟩
  refine own_step (f' := (mkF m 62 #[.val (.ref a1), .val (.ref a2), .val .null, .val (.int (1 : Int32))] [])) st20 ?_
  refine own_out (v := none) X20 hlk (fun _ => rfl) (fun fs hr => X20.returnOut hx Bd.returns (hb hby d19_62) hr) (by decide) (by decide) ?_
  rw [e20]
  exact ⟨b7, y1_8, _, y2_8, _, y3_8, _, rfl, N20, (((((((Keep.refl h0 [a1, ka]).ext E7).trans K8 (allS (Or.inr sz_b7) all0)).wr W10 (Or.inl (List.mem_of_getElem? (i := 1) rfl))).wr W15 (Or.inl (List.mem_of_getElem? (i := 0) rfl))).trans K18 (allS (Or.inr sz_b7) all0)).wr W20 (Or.inl (List.mem_of_getElem? (i := 0) rfl))), g_b7, sz_b7, g_y1_8, sz_y1_8, ne_b7_y1_8, g_y2_8, sz_y2_8, ne_b7_y2_8, ne_y1_8_y2_8, g_y3_8, sz_y3_8, ne_b7_y3_8, ne_y1_8_y3_8, ne_y2_8_y3_8, ((((((F_kept_a1.ext E7).keep K8 (ninS ne_a1_b7 nin0)).other W10 (Or.inl ne_a1_ka)).other W15 (Or.inr (Jvm.RoadKit.slot_ne (Or.inr (own_w68 hw)) (Or.inl (own_w127 hw)) (by decide) own_fd_4 own_fd_5))).keep K18 (ninS ne_a1_b7 nin0)).other W20 (Or.inr (Jvm.RoadKit.slot_ne (Or.inr (own_w68 hw)) (Or.inl (own_w125 hw)) (by decide) own_fd_4 own_fd_6))), ((((((F_oldest_a1.ext E7).keep K8 (ninS ne_a1_b7 nin0)).other W10 (Or.inl ne_a1_ka)).other W15 (Or.inr (Jvm.RoadKit.slot_ne (Or.inl (own_w146 hw)) (Or.inl (own_w127 hw)) (by decide) own_fd_2 own_fd_5))).keep K18 (ninS ne_a1_b7 nin0)).other W20 (Or.inr (Jvm.RoadKit.slot_ne (Or.inl (own_w146 hw)) (Or.inl (own_w125 hw)) (by decide) own_fd_2 own_fd_6))), ((((((F_reading_a1.ext E7).keep K8 (ninS ne_a1_b7 nin0)).other W10 (Or.inl ne_a1_ka)).same W15).keep K18 (ninS ne_a1_b7 nin0)).other W20 (Or.inr (Jvm.RoadKit.slot_ne (Or.inl (own_w127 hw)) (Or.inl (own_w125 hw)) (by decide) own_fd_5 own_fd_6))), ((((((F_readFrom_a1.ext E7).keep K8 (ninS ne_a1_b7 nin0)).other W10 (Or.inl ne_a1_ka)).other W15 (Or.inr (Jvm.RoadKit.slot_ne (Or.inl (own_w125 hw)) (Or.inl (own_w127 hw)) (by decide) own_fd_6 own_fd_5))).keep K18 (ninS ne_a1_b7 nin0)).same W20), (((V10.other W15 (Ne.symm ne_a1_ka)).keep K18 (ninS ne_ka_b7 nin0)).other W20 (Ne.symm ne_a1_ka)), (((((A7.keep K8).wr W10).wr W15).keep K18).wr W20), (P18_0.other W20 (Or.inl (Ne.symm ne_a1_b7))), (P18_1.other W20 (Or.inl (Ne.symm ne_a1_b7))), (P18_2.other W20 (Or.inl (Ne.symm ne_a1_b7))), (P18_3.other W20 (Or.inl (Ne.symm ne_a1_b7))), (P18_4.other W20 (Or.inl (Ne.symm ne_a1_b7))), (P18_5.other W20 (Or.inl (Ne.symm ne_a1_b7))), (P18_6.other W20 (Or.inl (Ne.symm ne_a1_b7))), (P18_7.other W20 (Or.inl (Ne.symm ne_a1_b7))), (P18_8.other W20 (Or.inl (Ne.symm ne_a1_b7))), (P18_9.other W20 (Or.inl (Ne.symm ne_a1_b7))), ((((P8_10.other W10 (Ne.symm ne_ka_y1_8)).other W15 (Ne.symm ne_a1_y1_8)).keep K18 (ninS (Ne.symm ne_b7_y1_8) nin0)).other W20 (Ne.symm ne_a1_y1_8)), ((((P8_11.other W10 (Ne.symm ne_ka_y2_8)).other W15 (Ne.symm ne_a1_y2_8)).keep K18 (ninS (Ne.symm ne_b7_y2_8) nin0)).other W20 (Ne.symm ne_a1_y2_8)), P8_12, ((((P8_13.other W10 (Ne.symm ne_ka_y3_8)).other W15 (Ne.symm ne_a1_y3_8)).keep K18 (ninS (Ne.symm ne_b7_y3_8) nin0)).other W20 (Ne.symm ne_a1_y3_8)), P8_14⟩
abbrev own_St := Bool × Nat × List Value × List Value
def own_L0 : List Value := [.null, .null, .null, .null, .null, .null, .null, .null, .null, .null, .null, .null, .null, .null, .null, .null]
def own_s0 : own_St := (true, 0, own_L0, own_L0)
def own_add : own_St → Addr → Value → own_St
  | (true, k, ns, ws), a, v => if k = 16 then (false, k, ns, ws) else (true, k + 1, ns.set k (.ref a), ws.set k v)
  | (false, k, ns, ws), _, _ => (false, k, ns, ws)
def own_four (st : own_St) (a : Addr) (v : Value) : own_St := own_add (own_add (own_add (own_add st a v) a v) a v) a v
theorem own_addT {k : Nat} {ns ws : List Value} {a : Addr} {v : Value} (h : ¬ k = 16) : own_add (true, k, ns, ws) a v = (true, k + 1, ns.set k (.ref a), ws.set k v) := if_neg h
theorem own_addF {ns ws : List Value} {a : Addr} {v : Value} : own_add (true, 16, ns, ws) a v = (false, 16, ns, ws) := rfl
theorem own_kn : ∀ k : Fin 17, (Int32.ofNat k.val).toNatClampNeg = k.val ∧ ¬ Int32.ofNat k.val < (0 : Int32) ∧ (k.val = 16 ∨ Int32.ofNat k.val < (16 : Int32)) ∧ (k.val = 16 ∨ ¬ Int32.ofNat k.val = (16 : Int32)) ∧ Int32.ofNat k.val + (1 : Int32) = Int32.ofNat (k.val + 1) := by decide +kernel
theorem own_k1 {k : Nat} (h : k ≤ 16) (q : ¬ k = 16) : (Int32.ofNat k).toNatClampNeg = k ∧ ¬ Int32.ofNat k < (0 : Int32) ∧ Int32.ofNat k < (16 : Int32) ∧ ¬ Int32.ofNat k = (16 : Int32) ∧ Int32.ofNat k + (1 : Int32) = Int32.ofNat (k + 1) := by
  obtain ⟨a, b, c, d, e⟩ := own_kn ⟨k, by omega⟩
  exact ⟨a, b, c.resolve_left q, d.resolve_left q, e⟩
theorem own_l1 {i : Int32} {n : Nat} (hI : ∃ j, i = Int32.ofNat j ∧ j + n = 16 ∧ 1 ≤ j) (hc : i < (16 : Int32)) : ¬ i < (0 : Int32) ∧ i.toNatClampNeg ≠ 0 ∧ n - 1 < n ∧ ∃ j, i + (1 : Int32) = Int32.ofNat j ∧ j + (n - 1) = 16 ∧ 1 ≤ j := by
  obtain ⟨j, rfl, h1, h2⟩ := hI
  have hj : ¬ j = 16 := fun q => by subst q; exact absurd hc (by decide)
  obtain ⟨a, b, c, d, e⟩ := own_k1 (k := j) (by omega) hj
  exact ⟨b, by rw [a]; omega, by omega, j + 1, e, by omega, by omega⟩
theorem own_nul (x : Value) : ∀ j : Nat, j ≠ 0 → ([x, .null, .null, .null, .null, .null, .null, .null, .null, .null, .null, .null, .null, .null, .null, .null] : List Value).getD j .null = .null
  | 0, h => absurd rfl h
  | 1, _ => rfl
  | 2, _ => rfl
  | 3, _ => rfl
  | 4, _ => rfl
  | 5, _ => rfl
  | 6, _ => rfl
  | 7, _ => rfl
  | 8, _ => rfl
  | 9, _ => rfl
  | 10, _ => rfl
  | 11, _ => rfl
  | 12, _ => rfl
  | 13, _ => rfl
  | 14, _ => rfl
  | 15, _ => rfl
  | _ + 16, _ => rfl
def own_Dis (Z : State) (n0 : Nat) (a1 ka cg bb bn bv : Addr) (kk kb kn kv : ClassId) : Prop := n0 ≤ a1 ∧ n0 ≤ cg ∧ n0 ≤ bn ∧ n0 ≤ bv ∧ n0 ≤ bb ∧ a1 ≠ ka ∧ a1 ≠ cg ∧ a1 ≠ bb ∧ a1 ≠ bn ∧ a1 ≠ bv ∧ ka ≠ cg ∧ ka ≠ bb ∧ ka ≠ bn ∧ ka ≠ bv ∧ cg ≠ bb ∧ cg ≠ bn ∧ cg ≠ bv ∧ bb ≠ bn ∧ bb ≠ bv ∧ bn ≠ bv ∧ Ovr Z kn own_NM ∧ Ovr Z kv "java/lang/String"
def own_Inv (Z : State) (h : Heap) (a1 ka cg bb bn bv : Addr) (kk kb kn kv : ClassId) (st : own_St) : Prop := Exa Z h a1 own_AC ∧ Exa Z h cg own_CO ∧ Fld Z h a1 own_AC "kept" "[Lcom/example/valbonne/valbonne/codec/AttributeCodings$Coding;" (.ref ka) ∧ Fld Z h a1 own_AC "oldest" "I" (.int (0 : Int32)) ∧ Fld Z h a1 own_AC "reading" "Lcom/example/valbonne/valbonne/codec/AttributeCodings$Coding;" (bif st.1 then (.ref cg) else .null) ∧ Fld Z h a1 own_AC "readFrom" "J" (.long (0 : Int64)) ∧ Fld Z h cg own_CO "declared" "Lcom/example/valbonne/valbonne/codec/DeclaredAttributes;" .null ∧ Fld Z h cg own_CO "loose" "Z" (.int (1 : Int32)) ∧ Fld Z h cg own_CO "page" "I" (.int (0 : Int32)) ∧ Fld Z h cg own_CO "endPage" "I" (.int (0 : Int32)) ∧ Fld Z h cg own_CO "bytes" "[B" (.ref bb) ∧ Fld Z h cg own_CO "length" "I" (.int (0 : Int32)) ∧ Fld Z h cg own_CO "names" "[Lcom/example/valbonne/valbonne/codec/Name;" (.ref bn) ∧ Fld Z h cg own_CO "values" "[Ljava/lang/String;" (.ref bv) ∧ Fld Z h cg own_CO "size" "I" (.int (Int32.ofNat st.2.1)) ∧ Fld Z h cg own_CO "known" "Z" (.int (0 : Int32)) ∧ Arv Z h ka kk (.object own_CO) (16 : Int32) [(.ref cg), .null, .null, .null, .null, .null, .null, .null, .null, .null, .null, .null, .null, .null, .null, .null] .null ∧ Arv Z h bb kb .byte (64 : Int32) [] (.int (0 : Int32)) ∧ Arv Z h bn kn (.object own_NM) (16 : Int32) st.2.2.1 .null ∧ Arv Z h bv kv (.object "java/lang/String") (16 : Int32) st.2.2.2 .null ∧ st.2.1 ≤ 16 ∧ st.2.2.1.length = 16 ∧ st.2.2.2.length = 16
theorem d22_0 : decode prog_11_method_4_code 0 = .ok (.aload_n 0, 1) := by decide +kernel
theorem d22_1 : decode prog_11_method_4_code 1 = .ok (.getfield 52, 3) := by decide +kernel
theorem d22_4 : decode prog_11_method_4_code 4 = .ok (.ifnull 23, 3) := by decide +kernel
theorem d22_27 : decode prog_11_method_4_code 27 = .ok (.aload_n 0, 1) := by decide +kernel
theorem d22_28 : decode prog_11_method_4_code 28 = .ok (.getfield 52, 3) := by decide +kernel
theorem d22_31 : decode prog_11_method_4_code 31 = .ok (.ifnull 48, 3) := by decide +kernel
theorem d22_79 : decode prog_11_method_4_code 79 = .ok (.return_, 1) := by decide +kernel
theorem ef_22n (m : MethodId) (x0 : Addr) (x1 : Addr) (x2 : Value) (hx2 : x2.category = 1) : entryFrame m #[(.ref x0), (.ref x1), x2] 3 = mkF m 0 #[.val (.ref x0), .val (.ref x1), .val x2] [] := by first | (simp [entryFrame, mkF, argsToLocals, hx2, show ∀ a, (Value.ref a).category = 1 from fun _ => rfl, show ∀ a, (Value.int a).category = 1 from fun _ => rfl]; done) | (cases x2 <;> first | rfl | (simp [Value.category] at *))
def Q22n (Z : State) (a1 : Addr) (a2 : Addr) (vv : Value) (h0 : Heap) (n0 : Nat) (v : Option Value) (h : Heap) (L : List Loc) : Prop := v = none ∧ L = [] ∧ h = h0
abbrev R22n : Room := { frames := 0, cells := 0, slots := 0, locals := 0 }
set_option maxRecDepth 65536 in
set_option maxHeartbeats 40000000 in
theorem rm22n (l : Launch) (Z : State) (a0 : Array Value) (hw : ∀ d ∈ tables_1, d.before a0 Z = true) (ws : List Jvm.Cond) (a1 : Addr) (a2 : Addr) (vv : Value) (h0 : Heap) (n0 : Nat) (Z0 : n0 ≤ h0.size) (X_vv : own_Opt Z h0 vv "java/lang/String") (F_reading_a1 : Fld Z h0 a1 own_AC "reading" "Lcom/example/valbonne/valbonne/codec/AttributeCodings$Coding;" .null) :
    MetFree l (⟨own_AC, "add", "(Lcom/example/valbonne/valbonne/codec/Name;Ljava/lang/String;)V"⟩ : MethodName) (head1 (Jvm.Cond.code (⟨own_AC, "add", "(Lcom/example/valbonne/valbonne/codec/Name;Ljava/lang/String;)V"⟩ : MethodName) prog_11_method_4_code 3 none :: ws) R22n) (fun a U => a = #[(.ref a1), (.ref a2), vv] ∧ Z.Warmed39 U.vm ∧ U.heap = h0) (fun _ _ _ _ _ => True) (fun _ U o U' => ∃ v L, o = .returned v ∧ Q22n Z a1 a2 vv h0 n0 v U'.heap L ∧ FrameEnd U o U' L R22n.cells R22n.slots) := by
  refine MetFree.of_bodySF (plainFor_of_name pn_4) hisR ?_
  intro p e s m args below meth c s₁ Bd hml0 hP hK
  obtain ⟨rfl, hZ, hh⟩ := hP
  have hx := Bd.exec
  have hby := Bd.bytes
  have hlk : meth.locks = false := BodyLoose.notSynchronized Bd
  have hml : c.maxLocals = 3 := hml0
  have hown : s.vm.findClass own_AC = some m.cls := findClass_of_methodNamed Bd.named
  have hnm := (name_of_methodNamed Bd.named Bd.method).1
  have X0 : Stand p l e R22n s m #[(.ref a1), (.ref a2), vv] below meth c s₁ [] 0 0 := Stand.of_body Bd
  have e0 : s₁.heap = h0 := by rw [← hh, Bd.state]; rfl
  have N0 := Fr.nil n0
  show own_Goes p e below s (Q22n Z a1 a2 vv h0 n0) R22n.cells R22n.slots s₁ (entryFrame m #[(.ref a1), (.ref a2), vv] 3)
  rw [ef_22n m a1 a2 vv (XT.cat1 X_vv.isR)]
  refine own_step (f' := (mkF m 1 #[.val (.ref a1), .val (.ref a2), .val vv] [(.ref a1)])) (fun _ k => XS.aloadN X0.here hx rfl (hb hby d22_0) rfl rfl k) ?_
  obtain ⟨T1, X1, e1, st1⟩ := getF X0 hx hZ hown (host := "") (Or.inl (own_w126 hw)) Via.refl e0 F_reading_a1 (g := (mkF m 1 #[.val (.ref a1), .val (.ref a2), .val vv] [(.ref a1)])) rfl rfl (hb hby d22_1)
  refine own_step (f' := (mkF m 4 #[.val (.ref a1), .val (.ref a2), .val vv] [.null])) st1 ?_
  refine own_step (f' := (mkF m 27 #[.val (.ref a1), .val (.ref a2), .val vv] [])) (fun _ k => XS.ifnullYes X1.here hx rfl (pc0 := 4) (pc' := 27) rfl (hb hby d22_4) rfl (by decide) (by decide) k) ?_
  refine own_step (f' := (mkF m 28 #[.val (.ref a1), .val (.ref a2), .val vv] [(.ref a1)])) (fun _ k => XS.aloadN X1.here hx rfl (hb hby d22_27) rfl rfl k) ?_
  obtain ⟨T2, X2, e2, st2⟩ := getF X1 hx hZ hown (host := "") (Or.inl (own_w126 hw)) Via.refl e1 F_reading_a1 (g := (mkF m 28 #[.val (.ref a1), .val (.ref a2), .val vv] [(.ref a1)])) rfl rfl (hb hby d22_28)
  refine own_step (f' := (mkF m 31 #[.val (.ref a1), .val (.ref a2), .val vv] [.null])) st2 ?_
  refine own_step (f' := (mkF m 79 #[.val (.ref a1), .val (.ref a2), .val vv] [])) (fun _ k => XS.ifnullYes X2.here hx rfl (pc0 := 31) (pc' := 79) rfl (hb hby d22_31) rfl (by decide) (by decide) k) ?_
  refine own_out (v := none) X2 hlk (fun _ => rfl) (fun fs hr => X2.returnOut hx Bd.returns (hb hby d22_79) hr) (by decide) (by decide) ?_
  rw [e2]
  exact ⟨rfl, rfl, rfl⟩
theorem own_w182 {a0 Z} (hw : own_HW a0 Z) : (Cond.fieldRef "com/example/valbonne/valbonne/codec/AttributeCodings" (67 : Nat) "com/example/valbonne/valbonne/codec/AttributeCodings$Coding" "size" "I").before a0 Z = true := own_at hw 182 rfl
theorem own_w183 {a0 Z} (hw : own_HW a0 Z) : (Cond.fieldRef "com/example/valbonne/valbonne/codec/AttributeCodings" (69 : Nat) "com/example/valbonne/valbonne/codec/AttributeCodings$Coding" "names" "[Lcom/example/valbonne/valbonne/codec/Name;").before a0 Z = true := own_at hw 183 rfl
theorem own_w185 {a0 Z} (hw : own_HW a0 Z) : (Cond.fieldRef "com/example/valbonne/valbonne/codec/AttributeCodings" (73 : Nat) "com/example/valbonne/valbonne/codec/AttributeCodings$Coding" "values" "[Ljava/lang/String;").before a0 Z = true := own_at hw 185 rfl
theorem d22_7 : decode prog_11_method_4_code 7 = .ok (.aload_n 0, 1) := by decide +kernel
theorem d22_8 : decode prog_11_method_4_code 8 = .ok (.getfield 52, 3) := by decide +kernel
theorem d22_11 : decode prog_11_method_4_code 11 = .ok (.getfield 67, 3) := by decide +kernel
theorem d22_14 : decode prog_11_method_4_code 14 = .ok (.bipush 16, 2) := by decide +kernel
theorem d22_16 : decode prog_11_method_4_code 16 = .ok (.if_icmp .ne 11, 3) := by decide +kernel
theorem d22_19 : decode prog_11_method_4_code 19 = .ok (.aload_n 0, 1) := by decide +kernel
theorem d22_20 : decode prog_11_method_4_code 20 = .ok (.aconst_null, 1) := by decide +kernel
theorem d22_21 : decode prog_11_method_4_code 21 = .ok (.putfield 52, 3) := by decide +kernel
theorem d22_24 : decode prog_11_method_4_code 24 = .ok (.goto 55, 3) := by decide +kernel
theorem d22_34 : decode prog_11_method_4_code 34 = .ok (.aload_n 0, 1) := by decide +kernel
theorem d22_35 : decode prog_11_method_4_code 35 = .ok (.getfield 52, 3) := by decide +kernel
theorem d22_38 : decode prog_11_method_4_code 38 = .ok (.getfield 69, 3) := by decide +kernel
theorem d22_41 : decode prog_11_method_4_code 41 = .ok (.aload_n 0, 1) := by decide +kernel
theorem d22_42 : decode prog_11_method_4_code 42 = .ok (.getfield 52, 3) := by decide +kernel
theorem d22_45 : decode prog_11_method_4_code 45 = .ok (.getfield 67, 3) := by decide +kernel
theorem d22_48 : decode prog_11_method_4_code 48 = .ok (.aload_n 1, 1) := by decide +kernel
theorem d22_49 : decode prog_11_method_4_code 49 = .ok (.aastore, 1) := by decide +kernel
theorem d22_50 : decode prog_11_method_4_code 50 = .ok (.aload_n 0, 1) := by decide +kernel
theorem d22_51 : decode prog_11_method_4_code 51 = .ok (.getfield 52, 3) := by decide +kernel
theorem d22_54 : decode prog_11_method_4_code 54 = .ok (.getfield 73, 3) := by decide +kernel
theorem d22_57 : decode prog_11_method_4_code 57 = .ok (.aload_n 0, 1) := by decide +kernel
theorem d22_58 : decode prog_11_method_4_code 58 = .ok (.getfield 52, 3) := by decide +kernel
theorem d22_61 : decode prog_11_method_4_code 61 = .ok (.getfield 67, 3) := by decide +kernel
theorem d22_64 : decode prog_11_method_4_code 64 = .ok (.aload_n 2, 1) := by decide +kernel
theorem d22_65 : decode prog_11_method_4_code 65 = .ok (.aastore, 1) := by decide +kernel
theorem d22_66 : decode prog_11_method_4_code 66 = .ok (.aload_n 0, 1) := by decide +kernel
theorem d22_67 : decode prog_11_method_4_code 67 = .ok (.getfield 52, 3) := by decide +kernel
theorem d22_70 : decode prog_11_method_4_code 70 = .ok (.dup, 1) := by decide +kernel
theorem d22_71 : decode prog_11_method_4_code 71 = .ok (.getfield 67, 3) := by decide +kernel
theorem d22_74 : decode prog_11_method_4_code 74 = .ok (.iconst 1, 1) := by decide +kernel
theorem d22_75 : decode prog_11_method_4_code 75 = .ok (.iadd, 1) := by decide +kernel
theorem d22_76 : decode prog_11_method_4_code 76 = .ok (.putfield 67, 3) := by decide +kernel
theorem ef_22b (m : MethodId) (x0 : Addr) (x1 : Addr) (x2 : Value) (hx2 : x2.category = 1) : entryFrame m #[(.ref x0), (.ref x1), x2] 3 = mkF m 0 #[.val (.ref x0), .val (.ref x1), .val x2] [] := by first | (simp [entryFrame, mkF, argsToLocals, hx2, show ∀ a, (Value.ref a).category = 1 from fun _ => rfl, show ∀ a, (Value.int a).category = 1 from fun _ => rfl]; done) | (cases x2 <;> first | rfl | (simp [Value.category] at *))
def Q22b (Z : State) (a1 : Addr) (a2 : Addr) (vv : Value) (ka : Addr) (cg : Addr) (bb : Addr) (bn : Addr) (bv : Addr) (kk : ClassId) (kb : ClassId) (kn : ClassId) (kv : ClassId) (st : own_St) (h0 : Heap) (n0 : Nat) (v : Option Value) (h : Heap) (L : List Loc) : Prop := v = none ∧ Fr n0 L ∧ Keep h0 h [a1, cg, bn, bv] ∧ own_Inv Z h a1 ka cg bb bn bv kk kb kn kv (own_add st a2 vv)
abbrev R22b : Room := { frames := 0, cells := 0, slots := 0, locals := 0 }
set_option maxRecDepth 65536 in
set_option maxHeartbeats 40000000 in
theorem rm22b (l : Launch) (Z : State) (a0 : Array Value) (hw : ∀ d ∈ tables_1, d.before a0 Z = true) (ws : List Jvm.Cond) (a1 : Addr) (a2 : Addr) (vv : Value) (ka : Addr) (cg : Addr) (bb : Addr) (bn : Addr) (bv : Addr) (kk : ClassId) (kb : ClassId) (kn : ClassId) (kv : ClassId) (st : own_St) (h0 : Heap) (n0 : Nat) (Z0 : n0 ≤ h0.size) (X_vv : own_Opt Z h0 vv "java/lang/String") (E_a2 : Exa Z h0 a2 own_NM) (hD : own_Dis Z n0 a1 ka cg bb bn bv kk kb kn kv) (hI : own_Inv Z h0 a1 ka cg bb bn bv kk kb kn kv st) :
    MetFree l (⟨own_AC, "add", "(Lcom/example/valbonne/valbonne/codec/Name;Ljava/lang/String;)V"⟩ : MethodName) (head1 (Jvm.Cond.code (⟨own_AC, "add", "(Lcom/example/valbonne/valbonne/codec/Name;Ljava/lang/String;)V"⟩ : MethodName) prog_11_method_4_code 3 none :: ws) R22b) (fun a U => a = #[(.ref a1), (.ref a2), vv] ∧ Z.Warmed39 U.vm ∧ U.heap = h0) (fun _ _ _ _ _ => True) (fun _ U o U' => ∃ v L, o = .returned v ∧ Q22b Z a1 a2 vv ka cg bb bn bv kk kb kn kv st h0 n0 v U'.heap L ∧ FrameEnd U o U' L R22b.cells R22b.slots) := by
  refine MetFree.of_bodySF (plainFor_of_name pn_4) hisR ?_
  intro p e s m args below meth c s₁ Bd hml0 hP hK
  obtain ⟨rfl, hZ, hh⟩ := hP
  have hx := Bd.exec
  have hby := Bd.bytes
  have hlk : meth.locks = false := BodyLoose.notSynchronized Bd
  have hml : c.maxLocals = 3 := hml0
  have hown : s.vm.findClass own_AC = some m.cls := findClass_of_methodNamed Bd.named
  have hnm := (name_of_methodNamed Bd.named Bd.method).1
  have X0 : Stand p l e R22b s m #[(.ref a1), (.ref a2), vv] below meth c s₁ [] 0 0 := Stand.of_body Bd
  have e0 : s₁.heap = h0 := by rw [← hh, Bd.state]; rfl
  have N0 := Fr.nil n0
  show own_Goes p e below s (Q22b Z a1 a2 vv ka cg bb bn bv kk kb kn kv st h0 n0) R22b.cells R22b.slots s₁ (entryFrame m #[(.ref a1), (.ref a2), vv] 3)
  rw [ef_22b m a1 a2 vv (XT.cat1 X_vv.isR)]
  obtain ⟨r, kz, ns, wz⟩ := st
  cases r
  · obtain ⟨U0, U1, U2, U3, U4, U5, U6, U7, U8, U9, U10, U11, U12, U13, U14, U15, U16, U17, U18, U19, Uk, Un, Uw⟩ := hI
    obtain ⟨Ud0, Ud1, Ud2, Ud3, Ud4, Ud5, Ud6, Ud7, Ud8, Ud9, Ud10, Ud11, Ud12, Ud13, Ud14, Ud15, Ud16, Ud17, Ud18, Ud19, Ud20, Ud21⟩ := hD
    have U4 : Fld Z h0 a1 own_AC "reading" "Lcom/example/valbonne/valbonne/codec/AttributeCodings$Coding;" .null := U4
    have U14 : Fld Z h0 cg own_CO "size" "I" (.int (Int32.ofNat kz)) := U14
    have U18 : Arv Z h0 bn kn (.object own_NM) (16 : Int32) ns .null := U18
    have U19 : Arv Z h0 bv kv (.object "java/lang/String") (16 : Int32) wz .null := U19
    have Uk : kz ≤ 16 := Uk
    have Un : ns.length = 16 := Un
    have Uw : wz.length = 16 := Uw
    refine own_step (f' := (mkF m 1 #[.val (.ref a1), .val (.ref a2), .val vv] [(.ref a1)])) (fun _ k => XS.aloadN X0.here hx rfl (hb hby d22_0) rfl rfl k) ?_
    obtain ⟨T1, X1, e1, st1⟩ := getF X0 hx hZ hown (host := "") (Or.inl (own_w126 hw)) Via.refl e0 U4 (g := (mkF m 1 #[.val (.ref a1), .val (.ref a2), .val vv] [(.ref a1)])) rfl rfl (hb hby d22_1)
    refine own_step (f' := (mkF m 4 #[.val (.ref a1), .val (.ref a2), .val vv] [.null])) st1 ?_
    refine own_step (f' := (mkF m 27 #[.val (.ref a1), .val (.ref a2), .val vv] [])) (fun _ k => XS.ifnullYes X1.here hx rfl (pc0 := 4) (pc' := 27) rfl (hb hby d22_4) rfl (by decide) (by decide) k) ?_
    refine own_step (f' := (mkF m 28 #[.val (.ref a1), .val (.ref a2), .val vv] [(.ref a1)])) (fun _ k => XS.aloadN X1.here hx rfl (hb hby d22_27) rfl rfl k) ?_
    obtain ⟨T2, X2, e2, st2⟩ := getF X1 hx hZ hown (host := "") (Or.inl (own_w126 hw)) Via.refl e1 U4 (g := (mkF m 28 #[.val (.ref a1), .val (.ref a2), .val vv] [(.ref a1)])) rfl rfl (hb hby d22_28)
    refine own_step (f' := (mkF m 31 #[.val (.ref a1), .val (.ref a2), .val vv] [.null])) st2 ?_
    refine own_step (f' := (mkF m 79 #[.val (.ref a1), .val (.ref a2), .val vv] [])) (fun _ k => XS.ifnullYes X2.here hx rfl (pc0 := 31) (pc' := 79) rfl (hb hby d22_31) rfl (by decide) (by decide) k) ?_
    refine own_out (v := none) X2 hlk (fun _ => rfl) (fun fs hr => X2.returnOut hx Bd.returns (hb hby d22_79) hr) (by decide) (by decide) ?_
    rw [e2]
    refine ⟨rfl, Fr.nil n0, (Keep.refl h0 [a1, cg, bn, bv]), ?_⟩
    exact ⟨U0, U1, U2, U3, U4, U5, U6, U7, U8, U9, U10, U11, U12, U13, U14, U15, U16, U17, U18, U19, Uk, Un, Uw⟩
  · obtain ⟨U0, U1, U2, U3, U4, U5, U6, U7, U8, U9, U10, U11, U12, U13, U14, U15, U16, U17, U18, U19, Uk, Un, Uw⟩ := hI
    obtain ⟨Ud0, Ud1, Ud2, Ud3, Ud4, Ud5, Ud6, Ud7, Ud8, Ud9, Ud10, Ud11, Ud12, Ud13, Ud14, Ud15, Ud16, Ud17, Ud18, Ud19, Ud20, Ud21⟩ := hD
    have U4 : Fld Z h0 a1 own_AC "reading" "Lcom/example/valbonne/valbonne/codec/AttributeCodings$Coding;" (.ref cg) := U4
    have U14 : Fld Z h0 cg own_CO "size" "I" (.int (Int32.ofNat kz)) := U14
    have U18 : Arv Z h0 bn kn (.object own_NM) (16 : Int32) ns .null := U18
    have U19 : Arv Z h0 bv kv (.object "java/lang/String") (16 : Int32) wz .null := U19
    have Uk : kz ≤ 16 := Uk
    have Un : ns.length = 16 := Un
    have Uw : wz.length = 16 := Uw
    by_cases hk : kz = 16
    · subst hk
      have Us : Fld Z h0 cg own_CO "size" "I" (.int (16 : Int32)) := U14
      refine own_step (f' := (mkF m 1 #[.val (.ref a1), .val (.ref a2), .val vv] [(.ref a1)])) (fun _ k => XS.aloadN X0.here hx rfl (hb hby d22_0) rfl rfl k) ?_
      obtain ⟨T3, X3, e3, st3⟩ := getF X0 hx hZ hown (host := "") (Or.inl (own_w126 hw)) Via.refl e0 U4 (g := (mkF m 1 #[.val (.ref a1), .val (.ref a2), .val vv] [(.ref a1)])) rfl rfl (hb hby d22_1)
      refine own_step (f' := (mkF m 4 #[.val (.ref a1), .val (.ref a2), .val vv] [(.ref cg)])) st3 ?_
      refine own_step (f' := (mkF m 7 #[.val (.ref a1), .val (.ref a2), .val vv] [])) (fun _ k => XS.ifnullNo X3.here hx rfl (hb hby d22_4) rfl k) ?_
      refine own_step (f' := (mkF m 8 #[.val (.ref a1), .val (.ref a2), .val vv] [(.ref a1)])) (fun _ k => XS.aloadN X3.here hx rfl (hb hby d22_7) rfl rfl k) ?_
      obtain ⟨T4, X4, e4, st4⟩ := getF X3 hx hZ hown (host := "") (Or.inl (own_w126 hw)) Via.refl e3 U4 (g := (mkF m 8 #[.val (.ref a1), .val (.ref a2), .val vv] [(.ref a1)])) rfl rfl (hb hby d22_8)
      refine own_step (f' := (mkF m 11 #[.val (.ref a1), .val (.ref a2), .val vv] [(.ref cg)])) st4 ?_
      obtain ⟨T5, X5, e5, st5⟩ := own_getR X4 hx hZ hown (own_w182 hw) e4 Us (g := (mkF m 11 #[.val (.ref a1), .val (.ref a2), .val vv] [(.ref cg)])) rfl rfl (hb hby d22_11)
      refine own_step (f' := (mkF m 14 #[.val (.ref a1), .val (.ref a2), .val vv] [(.int (16 : Int32))])) st5 ?_
      refine own_step (f' := (mkF m 16 #[.val (.ref a1), .val (.ref a2), .val vv] [(.int (16 : Int32)), (.int (16 : Int32))])) (fun _ k => XS.bipush X5.here hx rfl (hb hby d22_14) k) ?_
      refine own_step (f' := (mkF m 19 #[.val (.ref a1), .val (.ref a2), .val vv] [])) (fun _ k => XS.icmpNo X5.here hx rfl (hb hby d22_16) rfl (teq (by decide : ((16 : Int32) = (16 : Int32)))).2 k) ?_
      refine own_step (f' := (mkF m 20 #[.val (.ref a1), .val (.ref a2), .val vv] [(.ref a1)])) (fun _ k => XS.aloadN X5.here hx rfl (hb hby d22_19) rfl rfl k) ?_
      refine own_step (f' := (mkF m 21 #[.val (.ref a1), .val (.ref a2), .val vv] [.null, (.ref a1)])) (fun _ k => XS.aconstNull X5.here hx rfl (hb hby d22_20) k) ?_
      obtain ⟨T6, h6, X6, e6, W6, st6⟩ := putF X5 hx hZ hown (host := "") (Or.inl (own_w126 hw)) Via.refl e5 U4 U0 (Or.inl (own_w127 hw)) (own_w59 hw) own_fd_5 rfl rfl (g := (mkF m 21 #[.val (.ref a1), .val (.ref a2), .val vv] [.null, (.ref a1)])) rfl rfl (hb hby d22_21)
      obtain ⟨Lo6, X6, N6⟩ : ∃ K, Stand p l e R22b s m #[(.ref a1), (.ref a2), vv] below meth c T6 K 0 0 ∧ Fr n0 K := ⟨_, X6, (Fr.snoc X6 N0 Ud0)⟩
      refine own_step (f' := (mkF m 24 #[.val (.ref a1), .val (.ref a2), .val vv] [])) st6 ?_
      refine own_step (f' := (mkF m 79 #[.val (.ref a1), .val (.ref a2), .val vv] [])) (fun _ k => XS.goto X6.here hx rfl (pc0 := 24) (pc' := 79) rfl (hb hby d22_24) (by decide) (by decide) k) ?_
      refine own_out (v := none) X6 hlk (fun _ => rfl) (fun fs hr => X6.returnOut hx Bd.returns (hb hby d22_79) hr) (by decide) (by decide) ?_
      rw [e6]
      refine ⟨rfl, N6, ((Keep.refl h0 [a1, cg, bn, bv]).wr W6 (Or.inl (List.mem_of_getElem? (i := 0) rfl))), ?_⟩
      exact ⟨(U0.wr W6), (U1.wr W6), (U2.other W6 (Or.inr (Jvm.RoadKit.slot_ne (Or.inr (own_w68 hw)) (Or.inl (own_w127 hw)) (by decide) own_fd_4 own_fd_5))), (U3.other W6 (Or.inr (Jvm.RoadKit.slot_ne (Or.inl (own_w146 hw)) (Or.inl (own_w127 hw)) (by decide) own_fd_2 own_fd_5))), (U4.same W6), (U5.other W6 (Or.inr (Jvm.RoadKit.slot_ne (Or.inl (own_w125 hw)) (Or.inl (own_w127 hw)) (by decide) own_fd_6 own_fd_5))), (U6.other W6 (Or.inl (Ne.symm Ud6))), (U7.other W6 (Or.inl (Ne.symm Ud6))), (U8.other W6 (Or.inl (Ne.symm Ud6))), (U9.other W6 (Or.inl (Ne.symm Ud6))), (U10.other W6 (Or.inl (Ne.symm Ud6))), (U11.other W6 (Or.inl (Ne.symm Ud6))), (U12.other W6 (Or.inl (Ne.symm Ud6))), (U13.other W6 (Or.inl (Ne.symm Ud6))), (Us.other W6 (Or.inl (Ne.symm Ud6))), (U15.other W6 (Or.inl (Ne.symm Ud6))), (U16.other W6 (Ne.symm Ud5)), (U17.other W6 (Ne.symm Ud7)), (U18.other W6 (Ne.symm Ud8)), (U19.other W6 (Ne.symm Ud9)), (Nat.le_refl _), Un, Uw⟩
    · obtain ⟨hki, hk0, hk1, hkn, hkp⟩ := own_k1 (k := kz) Uk hk
      refine own_step (f' := (mkF m 1 #[.val (.ref a1), .val (.ref a2), .val vv] [(.ref a1)])) (fun _ k => XS.aloadN X0.here hx rfl (hb hby d22_0) rfl rfl k) ?_
      obtain ⟨T7, X7, e7, st7⟩ := getF X0 hx hZ hown (host := "") (Or.inl (own_w126 hw)) Via.refl e0 U4 (g := (mkF m 1 #[.val (.ref a1), .val (.ref a2), .val vv] [(.ref a1)])) rfl rfl (hb hby d22_1)
      refine own_step (f' := (mkF m 4 #[.val (.ref a1), .val (.ref a2), .val vv] [(.ref cg)])) st7 ?_
      refine own_step (f' := (mkF m 7 #[.val (.ref a1), .val (.ref a2), .val vv] [])) (fun _ k => XS.ifnullNo X7.here hx rfl (hb hby d22_4) rfl k) ?_
      refine own_step (f' := (mkF m 8 #[.val (.ref a1), .val (.ref a2), .val vv] [(.ref a1)])) (fun _ k => XS.aloadN X7.here hx rfl (hb hby d22_7) rfl rfl k) ?_
      obtain ⟨T8, X8, e8, st8⟩ := getF X7 hx hZ hown (host := "") (Or.inl (own_w126 hw)) Via.refl e7 U4 (g := (mkF m 8 #[.val (.ref a1), .val (.ref a2), .val vv] [(.ref a1)])) rfl rfl (hb hby d22_8)
      refine own_step (f' := (mkF m 11 #[.val (.ref a1), .val (.ref a2), .val vv] [(.ref cg)])) st8 ?_
      obtain ⟨T9, X9, e9, st9⟩ := own_getR X8 hx hZ hown (own_w182 hw) e8 U14 (g := (mkF m 11 #[.val (.ref a1), .val (.ref a2), .val vv] [(.ref cg)])) rfl rfl (hb hby d22_11)
      refine own_step (f' := (mkF m 14 #[.val (.ref a1), .val (.ref a2), .val vv] [(.int (Int32.ofNat kz))])) st9 ?_
      refine own_step (f' := (mkF m 16 #[.val (.ref a1), .val (.ref a2), .val vv] [(.int (16 : Int32)), (.int (Int32.ofNat kz))])) (fun _ k => XS.bipush X9.here hx rfl (hb hby d22_14) k) ?_
      have hf16_10 : ¬ ((Int32.ofNat kz) = (16 : Int32)) := hkn
      refine own_step (f' := (mkF m 27 #[.val (.ref a1), .val (.ref a2), .val vv] [])) (fun _ k => XS.icmpYes X9.here hx rfl (pc0 := 16) (pc' := 27) rfl (hb hby d22_16) rfl (feq hf16_10).2 (by decide) (by decide) k) ?_
      refine own_step (f' := (mkF m 28 #[.val (.ref a1), .val (.ref a2), .val vv] [(.ref a1)])) (fun _ k => XS.aloadN X9.here hx rfl (hb hby d22_27) rfl rfl k) ?_
      obtain ⟨T11, X11, e11, st11⟩ := getF X9 hx hZ hown (host := "") (Or.inl (own_w126 hw)) Via.refl e9 U4 (g := (mkF m 28 #[.val (.ref a1), .val (.ref a2), .val vv] [(.ref a1)])) rfl rfl (hb hby d22_28)
      refine own_step (f' := (mkF m 31 #[.val (.ref a1), .val (.ref a2), .val vv] [(.ref cg)])) st11 ?_
      refine own_step (f' := (mkF m 34 #[.val (.ref a1), .val (.ref a2), .val vv] [])) (fun _ k => XS.ifnullNo X11.here hx rfl (hb hby d22_31) rfl k) ?_
      refine own_step (f' := (mkF m 35 #[.val (.ref a1), .val (.ref a2), .val vv] [(.ref a1)])) (fun _ k => XS.aloadN X11.here hx rfl (hb hby d22_34) rfl rfl k) ?_
      obtain ⟨T12, X12, e12, st12⟩ := getF X11 hx hZ hown (host := "") (Or.inl (own_w126 hw)) Via.refl e11 U4 (g := (mkF m 35 #[.val (.ref a1), .val (.ref a2), .val vv] [(.ref a1)])) rfl rfl (hb hby d22_35)
      refine own_step (f' := (mkF m 38 #[.val (.ref a1), .val (.ref a2), .val vv] [(.ref cg)])) st12 ?_
      obtain ⟨T13, X13, e13, st13⟩ := own_getR X12 hx hZ hown (own_w183 hw) e12 U12 (g := (mkF m 38 #[.val (.ref a1), .val (.ref a2), .val vv] [(.ref cg)])) rfl rfl (hb hby d22_38)
      refine own_step (f' := (mkF m 41 #[.val (.ref a1), .val (.ref a2), .val vv] [(.ref bn)])) st13 ?_
      refine own_step (f' := (mkF m 42 #[.val (.ref a1), .val (.ref a2), .val vv] [(.ref a1), (.ref bn)])) (fun _ k => XS.aloadN X13.here hx rfl (hb hby d22_41) rfl rfl k) ?_
      obtain ⟨T14, X14, e14, st14⟩ := getF X13 hx hZ hown (host := "") (Or.inl (own_w126 hw)) Via.refl e13 U4 (g := (mkF m 42 #[.val (.ref a1), .val (.ref a2), .val vv] [(.ref a1), (.ref bn)])) rfl rfl (hb hby d22_42)
      refine own_step (f' := (mkF m 45 #[.val (.ref a1), .val (.ref a2), .val vv] [(.ref cg), (.ref bn)])) st14 ?_
      obtain ⟨T15, X15, e15, st15⟩ := own_getR X14 hx hZ hown (own_w182 hw) e14 U14 (g := (mkF m 45 #[.val (.ref a1), .val (.ref a2), .val vv] [(.ref cg), (.ref bn)])) rfl rfl (hb hby d22_45)
      refine own_step (f' := (mkF m 48 #[.val (.ref a1), .val (.ref a2), .val vv] [(.int (Int32.ofNat kz)), (.ref bn)])) st15 ?_
      refine own_step (f' := (mkF m 49 #[.val (.ref a1), .val (.ref a2), .val vv] [(.ref a2), (.int (Int32.ofNat kz)), (.ref bn)])) (fun _ k => XS.aloadN X15.here hx rfl (hb hby d22_48) rfl rfl k) ?_
      obtain ⟨cl16, Ar16, qa16, Sa16, Na16, Ha16, Ga16⟩ := id (U18)
      have hin17 : ¬ ((Int32.ofNat kz) < 0 ∨ cl16.slots.size ≤ ((Int32.ofNat kz)).toNatClampNeg) := inb_of Sa16 ⟨hk0, hk1⟩
      obtain ⟨T17, h17, X17, e17, W17, st17⟩ := stR X15 hx hZ e15 Ar16 (j := (Int32.ofNat kz)) hin17 rfl (Sto.ofV Ar16 qa16 Ud20 (Ins.self E_a2)) (g := (mkF m 49 #[.val (.ref a1), .val (.ref a2), .val vv] [(.ref a2), (.int (Int32.ofNat kz)), (.ref bn)])) rfl rfl (hb hby d22_49)
      have V17 : Arv Z h17 bn kn (.object own_NM) (16 : Int32) (ns.set kz (.ref a2)) .null := Arv.set Ar16 qa16 Sa16 Na16 Ha16 Ga16 rfl W17 kz hki (by omega)
      obtain ⟨Lo17, X17, N17⟩ : ∃ K, Stand p l e R22b s m #[(.ref a1), (.ref a2), vv] below meth c T17 K 0 0 ∧ Fr n0 K := ⟨_, X17, (Fr.snoc X17 N0 Ud2)⟩
      refine own_step (f' := (mkF m 50 #[.val (.ref a1), .val (.ref a2), .val vv] [])) st17 ?_
      refine own_step (f' := (mkF m 51 #[.val (.ref a1), .val (.ref a2), .val vv] [(.ref a1)])) (fun _ k => XS.aloadN X17.here hx rfl (hb hby d22_50) rfl rfl k) ?_
      obtain ⟨T18, X18, e18, st18⟩ := getF X17 hx hZ hown (host := "") (Or.inl (own_w126 hw)) Via.refl e17 (U4.other W17 (Or.inl Ud8)) (g := (mkF m 51 #[.val (.ref a1), .val (.ref a2), .val vv] [(.ref a1)])) rfl rfl (hb hby d22_51)
      refine own_step (f' := (mkF m 54 #[.val (.ref a1), .val (.ref a2), .val vv] [(.ref cg)])) st18 ?_
      obtain ⟨T19, X19, e19, st19⟩ := own_getR X18 hx hZ hown (own_w185 hw) e18 (U13.other W17 (Or.inl Ud15)) (g := (mkF m 54 #[.val (.ref a1), .val (.ref a2), .val vv] [(.ref cg)])) rfl rfl (hb hby d22_54)
      refine own_step (f' := (mkF m 57 #[.val (.ref a1), .val (.ref a2), .val vv] [(.ref bv)])) st19 ?_
      refine own_step (f' := (mkF m 58 #[.val (.ref a1), .val (.ref a2), .val vv] [(.ref a1), (.ref bv)])) (fun _ k => XS.aloadN X19.here hx rfl (hb hby d22_57) rfl rfl k) ?_
      obtain ⟨T20, X20, e20, st20⟩ := getF X19 hx hZ hown (host := "") (Or.inl (own_w126 hw)) Via.refl e19 (U4.other W17 (Or.inl Ud8)) (g := (mkF m 58 #[.val (.ref a1), .val (.ref a2), .val vv] [(.ref a1), (.ref bv)])) rfl rfl (hb hby d22_58)
      refine own_step (f' := (mkF m 61 #[.val (.ref a1), .val (.ref a2), .val vv] [(.ref cg), (.ref bv)])) st20 ?_
      obtain ⟨T21, X21, e21, st21⟩ := own_getR X20 hx hZ hown (own_w182 hw) e20 (U14.other W17 (Or.inl Ud15)) (g := (mkF m 61 #[.val (.ref a1), .val (.ref a2), .val vv] [(.ref cg), (.ref bv)])) rfl rfl (hb hby d22_61)
      refine own_step (f' := (mkF m 64 #[.val (.ref a1), .val (.ref a2), .val vv] [(.int (Int32.ofNat kz)), (.ref bv)])) st21 ?_
      refine own_step (f' := (mkF m 65 #[.val (.ref a1), .val (.ref a2), .val vv] [vv, (.int (Int32.ofNat kz)), (.ref bv)])) (fun _ k => XS.aloadN X21.here hx rfl (hb hby d22_64) rfl X_vv.isR k) ?_
      obtain ⟨cl22, Ar22, qa22, Sa22, Na22, Ha22, Ga22⟩ := id ((U19.other W17 (Ne.symm Ud19)))
      have hin23 : ¬ ((Int32.ofNat kz) < 0 ∨ cl22.slots.size ≤ ((Int32.ofNat kz)).toNatClampNeg) := inb_of Sa22 ⟨hk0, hk1⟩
      obtain ⟨T23, h23, X23, e23, W23, st23⟩ := stR X21 hx hZ e21 Ar22 (j := (Int32.ofNat kz)) hin23 rfl ((X_vv.wr W17).sto Ar22 qa22 Ud21) (g := (mkF m 65 #[.val (.ref a1), .val (.ref a2), .val vv] [vv, (.int (Int32.ofNat kz)), (.ref bv)])) rfl rfl (hb hby d22_65)
      have V23 : Arv Z h23 bv kv (.object "java/lang/String") (16 : Int32) (wz.set kz vv) .null := Arv.set Ar22 qa22 Sa22 Na22 Ha22 Ga22 (X_vv.wr W17).fit W23 kz hki (by omega)
      obtain ⟨Lo23, X23, N23⟩ : ∃ K, Stand p l e R22b s m #[(.ref a1), (.ref a2), vv] below meth c T23 K 0 0 ∧ Fr n0 K := ⟨_, X23, (Fr.snoc X23 N17 Ud3)⟩
      refine own_step (f' := (mkF m 66 #[.val (.ref a1), .val (.ref a2), .val vv] [])) st23 ?_
      refine own_step (f' := (mkF m 67 #[.val (.ref a1), .val (.ref a2), .val vv] [(.ref a1)])) (fun _ k => XS.aloadN X23.here hx rfl (hb hby d22_66) rfl rfl k) ?_
      obtain ⟨T24, X24, e24, st24⟩ := getF X23 hx hZ hown (host := "") (Or.inl (own_w126 hw)) Via.refl e23 ((U4.other W17 (Or.inl Ud8)).other W23 (Or.inl Ud9)) (g := (mkF m 67 #[.val (.ref a1), .val (.ref a2), .val vv] [(.ref a1)])) rfl rfl (hb hby d22_67)
      refine own_step (f' := (mkF m 70 #[.val (.ref a1), .val (.ref a2), .val vv] [(.ref cg)])) st24 ?_
      refine own_step (f' := (mkF m 71 #[.val (.ref a1), .val (.ref a2), .val vv] [(.ref cg), (.ref cg)])) (fun _ k => XS.dup X24.here hx rfl (hb hby d22_70) rfl rfl k) ?_
      obtain ⟨T25, X25, e25, st25⟩ := own_getR X24 hx hZ hown (own_w182 hw) e24 ((U14.other W17 (Or.inl Ud15)).other W23 (Or.inl Ud16)) (g := (mkF m 71 #[.val (.ref a1), .val (.ref a2), .val vv] [(.ref cg), (.ref cg)])) rfl rfl (hb hby d22_71)
      refine own_step (f' := (mkF m 74 #[.val (.ref a1), .val (.ref a2), .val vv] [(.int (Int32.ofNat kz)), (.ref cg)])) st25 ?_
      refine own_step (f' := (mkF m 75 #[.val (.ref a1), .val (.ref a2), .val vv] [(.int (1 : Int32)), (.int (Int32.ofNat kz)), (.ref cg)])) (fun _ k => XS.iconst X25.here hx rfl (hb hby d22_74) k) ?_
      refine own_step (f' := (mkF m 76 #[.val (.ref a1), .val (.ref a2), .val vv] [(.int ((Int32.ofNat kz) + (1 : Int32))), (.ref cg)])) (fun _ k => XS.iadd X25.here hx rfl (hb hby d22_75) rfl k) ?_
      obtain ⟨T26, h26, X26, e26, W26, st26⟩ := own_putR X25 hx hZ hown (own_w182 hw) e25 ((U14.other W17 (Or.inl Ud15)).other W23 (Or.inl Ud16)) ((U1.wr W17).wr W23) (own_w174 hw) (own_w147 hw) (v' := (.int ((Int32.ofNat kz) + (1 : Int32)))) own_fd_2 rfl rfl (g := (mkF m 76 #[.val (.ref a1), .val (.ref a2), .val vv] [(.int ((Int32.ofNat kz) + (1 : Int32))), (.ref cg)])) rfl rfl (hb hby d22_76)
      obtain ⟨Lo26, X26, N26⟩ : ∃ K, Stand p l e R22b s m #[(.ref a1), (.ref a2), vv] below meth c T26 K 0 0 ∧ Fr n0 K := ⟨_, X26, (Fr.snoc X26 N23 Ud1)⟩
      refine own_step (f' := (mkF m 79 #[.val (.ref a1), .val (.ref a2), .val vv] [])) st26 ?_
      refine own_out (v := none) X26 hlk (fun _ => rfl) (fun fs hr => X26.returnOut hx Bd.returns (hb hby d22_79) hr) (by decide) (by decide) ?_
      rw [e26]
      have Us : Fld Z h26 cg own_CO "size" "I" (.int (Int32.ofNat (kz + 1))) := by rw [← hkp]; exact (((U14.other W17 (Or.inl Ud15)).other W23 (Or.inl Ud16)).same W26)
      refine ⟨rfl, N26, ((((Keep.refl h0 [a1, cg, bn, bv]).wr W17 (Or.inl (List.mem_of_getElem? (i := 2) rfl))).wr W23 (Or.inl (List.mem_of_getElem? (i := 3) rfl))).wr W26 (Or.inl (List.mem_of_getElem? (i := 1) rfl))), ?_⟩
      rw [own_addT hk]
      exact ⟨(((U0.wr W17).wr W23).wr W26), (((U1.wr W17).wr W23).wr W26), (((U2.other W17 (Or.inl Ud8)).other W23 (Or.inl Ud9)).other W26 (Or.inl Ud6)), (((U3.other W17 (Or.inl Ud8)).other W23 (Or.inl Ud9)).other W26 (Or.inl Ud6)), (((U4.other W17 (Or.inl Ud8)).other W23 (Or.inl Ud9)).other W26 (Or.inl Ud6)), (((U5.other W17 (Or.inl Ud8)).other W23 (Or.inl Ud9)).other W26 (Or.inl Ud6)), (((U6.other W17 (Or.inl Ud15)).other W23 (Or.inl Ud16)).other W26 (Or.inr (Jvm.RoadKit.slot_ne (Or.inl (own_w168 hw)) (Or.inl (own_w174 hw)) (by decide) own_fd_9 own_fd_2))), (((U7.other W17 (Or.inl Ud15)).other W23 (Or.inl Ud16)).other W26 (Or.inr (Jvm.RoadKit.slot_ne (Or.inl (own_w170 hw)) (Or.inl (own_w174 hw)) (by decide) own_fd_10 own_fd_2))), (((U8.other W17 (Or.inl Ud15)).other W23 (Or.inl Ud16)).other W26 (Or.inr (Jvm.RoadKit.slot_ne (Or.inl (own_w172 hw)) (Or.inl (own_w174 hw)) (by decide) own_fd_2 own_fd_2))), (((U9.other W17 (Or.inl Ud15)).other W23 (Or.inl Ud16)).other W26 (Or.inr (Jvm.RoadKit.slot_ne (Or.inl (own_w200 hw)) (Or.inl (own_w174 hw)) (by decide) own_fd_2 own_fd_2))), (((U10.other W17 (Or.inl Ud15)).other W23 (Or.inl Ud16)).other W26 (Or.inr (Jvm.RoadKit.slot_ne (Or.inr (own_w154 hw)) (Or.inl (own_w174 hw)) (by decide) own_fd_0 own_fd_2))), (((U11.other W17 (Or.inl Ud15)).other W23 (Or.inl Ud16)).other W26 (Or.inr (Jvm.RoadKit.slot_ne (Or.inl (own_w188 hw)) (Or.inl (own_w174 hw)) (by decide) own_fd_2 own_fd_2))), (((U12.other W17 (Or.inl Ud15)).other W23 (Or.inl Ud16)).other W26 (Or.inr (Jvm.RoadKit.slot_ne (Or.inr (own_w157 hw)) (Or.inl (own_w174 hw)) (by decide) own_fd_8 own_fd_2))), (((U13.other W17 (Or.inl Ud15)).other W23 (Or.inl Ud16)).other W26 (Or.inr (Jvm.RoadKit.slot_ne (Or.inr (own_w161 hw)) (Or.inl (own_w174 hw)) (by decide) own_fd_11 own_fd_2))), Us, (((U15.other W17 (Or.inl Ud15)).other W23 (Or.inl Ud16)).other W26 (Or.inr (Jvm.RoadKit.slot_ne (Or.inl (own_w176 hw)) (Or.inl (own_w174 hw)) (by decide) own_fd_10 own_fd_2))), (((U16.other W17 Ud12).other W23 Ud13).other W26 Ud10), (((U17.other W17 Ud17).other W23 Ud18).other W26 (Ne.symm Ud14)), ((V17.other W23 Ud19).other W26 (Ne.symm Ud15)), (V23.other W26 (Ne.symm Ud16)), (show kz + 1 ≤ 16 by omega), (show (ns.set kz (.ref a2)).length = 16 by rw [List.length_set]; exact Un), (show (wz.set kz vv).length = 16 by rw [List.length_set]; exact Uw)⟩
theorem own_w177 {a0 Z} (hw : own_HW a0 Z) : (Cond.methodLink "com/example/valbonne/valbonne/codec/AttributeCodingsAddPinLaw" (36 : Nat) ⟨"com/example/valbonne/valbonne/codec/AttributeCodings", "add", "(Lcom/example/valbonne/valbonne/codec/Name;Ljava/lang/String;)V"⟩).before a0 Z = true := own_at hw 177 rfl
theorem own_w181 {a0 Z} (hw : own_HW a0 Z) : (Cond.code ⟨"com/example/valbonne/valbonne/codec/AttributeCodings", "add", "(Lcom/example/valbonne/valbonne/codec/Name;Ljava/lang/String;)V"⟩ prog_11_method_4_code (3 : Nat) none).before a0 Z = true := own_at hw 181 rfl
theorem own_w60 {a0 Z} (hw : own_HW a0 Z) : (Cond.initialized "com/example/valbonne/valbonne/codec/AttributeCodings").before a0 Z = true := own_at hw 60 rfl
theorem pd_11 : parseMethodDescriptor "(Lcom/example/valbonne/valbonne/codec/Name;Ljava/lang/String;)V" = some ⟨[(.object "com/example/valbonne/valbonne/codec/Name"), (.object "java/lang/String")], none⟩ := by decide +kernel
theorem own_w180 {a0 Z} (hw : own_HW a0 Z) : (Cond.selects "com/example/valbonne/valbonne/codec/AttributeCodings" ⟨"com/example/valbonne/valbonne/codec/AttributeCodings", "add", "(Lcom/example/valbonne/valbonne/codec/Name;Ljava/lang/String;)V"⟩ ⟨"com/example/valbonne/valbonne/codec/AttributeCodings", "add", "(Lcom/example/valbonne/valbonne/codec/Name;Ljava/lang/String;)V"⟩).before a0 Z = true := own_at hw 180 rfl
theorem own_w178 {a0 Z} (hw : own_HW a0 Z) : (Cond.declares ⟨"com/example/valbonne/valbonne/codec/AttributeCodings", "add", "(Lcom/example/valbonne/valbonne/codec/Name;Ljava/lang/String;)V"⟩).before a0 Z = true := own_at hw 178 rfl
theorem own_w179 {a0 Z} (hw : own_HW a0 Z) : (Cond.instanceMethod ⟨"com/example/valbonne/valbonne/codec/AttributeCodings", "add", "(Lcom/example/valbonne/valbonne/codec/Name;Ljava/lang/String;)V"⟩).before a0 Z = true := own_at hw 179 rfl
theorem d32_0 : decode method_3_code 0 = .ok (.aload_n 0, 1) := by decide +kernel
theorem d32_1 : decode method_3_code 1 = .ok (.aload_n 1, 1) := by decide +kernel
theorem d32_2 : decode method_3_code 2 = .ok (.aload_n 2, 1) := by decide +kernel
theorem d32_3 : decode method_3_code 3 = .ok (.invokevirtual 36, 3) := by decide +kernel
theorem d32_6 : decode method_3_code 6 = .ok (.aload_n 0, 1) := by decide +kernel
theorem d32_7 : decode method_3_code 7 = .ok (.aload_n 1, 1) := by decide +kernel
theorem d32_8 : decode method_3_code 8 = .ok (.aload_n 2, 1) := by decide +kernel
theorem d32_9 : decode method_3_code 9 = .ok (.invokevirtual 36, 3) := by decide +kernel
theorem d32_12 : decode method_3_code 12 = .ok (.aload_n 0, 1) := by decide +kernel
theorem d32_13 : decode method_3_code 13 = .ok (.aload_n 1, 1) := by decide +kernel
theorem d32_14 : decode method_3_code 14 = .ok (.aload_n 2, 1) := by decide +kernel
theorem d32_15 : decode method_3_code 15 = .ok (.invokevirtual 36, 3) := by decide +kernel
theorem d32_18 : decode method_3_code 18 = .ok (.aload_n 0, 1) := by decide +kernel
theorem d32_19 : decode method_3_code 19 = .ok (.aload_n 1, 1) := by decide +kernel
theorem d32_20 : decode method_3_code 20 = .ok (.aload_n 2, 1) := by decide +kernel
theorem d32_21 : decode method_3_code 21 = .ok (.invokevirtual 36, 3) := by decide +kernel
theorem d32_24 : decode method_3_code 24 = .ok (.return_, 1) := by decide +kernel
theorem pn_8 : plainName "com/example/valbonne/valbonne/codec/AttributeCodingsAddPinLaw" = true := by first | (simp [plainName, overriddenIn]; done) | decide +kernel
theorem ef_32n (m : MethodId) (x0 : Addr) (x1 : Addr) (x2 : Value) (hx2 : x2.category = 1) : entryFrame m #[(.ref x0), (.ref x1), x2] 3 = mkF m 0 #[.val (.ref x0), .val (.ref x1), .val x2] [] := by first | (simp [entryFrame, mkF, argsToLocals, hx2, show ∀ a, (Value.ref a).category = 1 from fun _ => rfl, show ∀ a, (Value.int a).category = 1 from fun _ => rfl]; done) | (cases x2 <;> first | rfl | (simp [Value.category] at *))
def Q32n (Z : State) (a1 : Addr) (a2 : Addr) (vv : Value) (h0 : Heap) (n0 : Nat) (v : Option Value) (h : Heap) (L : List Loc) : Prop := v = none ∧ L = [] ∧ h = h0
abbrev R32n : Room := { frames := 1, cells := 0, slots := 0, locals := 14 }
set_option maxRecDepth 65536 in
set_option maxHeartbeats 40000000 in
theorem rm32n (l : Launch) (Z : State) (a0 : Array Value) (hw : ∀ d ∈ tables_1, d.before a0 Z = true) (ws : List Jvm.Cond) (a1 : Addr) (a2 : Addr) (vv : Value) (h0 : Heap) (n0 : Nat) (Z0 : n0 ≤ h0.size) (X_vv : own_Opt Z h0 vv "java/lang/String") (E_a1 : Exa Z h0 a1 own_AC) (F_reading_a1 : Fld Z h0 a1 own_AC "reading" "Lcom/example/valbonne/valbonne/codec/AttributeCodings$Coding;" .null) :
    MetFree l (⟨"com/example/valbonne/valbonne/codec/AttributeCodingsAddPinLaw", "addFour", "(Lcom/example/valbonne/valbonne/codec/AttributeCodings;Lcom/example/valbonne/valbonne/codec/Name;Ljava/lang/String;)V"⟩ : MethodName) (head1 (Jvm.Cond.code (⟨"com/example/valbonne/valbonne/codec/AttributeCodingsAddPinLaw", "addFour", "(Lcom/example/valbonne/valbonne/codec/AttributeCodings;Lcom/example/valbonne/valbonne/codec/Name;Ljava/lang/String;)V"⟩ : MethodName) method_3_code 3 none :: ws) R32n) (fun a U => a = #[(.ref a1), (.ref a2), vv] ∧ Z.Warmed39 U.vm ∧ U.heap = h0) (fun _ _ _ _ _ => True) (fun _ U o U' => ∃ v L, o = .returned v ∧ Q32n Z a1 a2 vv h0 n0 v U'.heap L ∧ FrameEnd U o U' L R32n.cells R32n.slots) := by
  refine MetFree.of_bodySF (plainFor_of_name pn_8) hisR ?_
  intro p e s m args below meth c s₁ Bd hml0 hP hK
  obtain ⟨rfl, hZ, hh⟩ := hP
  have hx := Bd.exec
  have hby := Bd.bytes
  have hlk : meth.locks = false := BodyLoose.notSynchronized Bd
  have hml : c.maxLocals = 3 := hml0
  have hown : s.vm.findClass "com/example/valbonne/valbonne/codec/AttributeCodingsAddPinLaw" = some m.cls := findClass_of_methodNamed Bd.named
  have hnm := (name_of_methodNamed Bd.named Bd.method).1
  have X0 : Stand p l e R32n s m #[(.ref a1), (.ref a2), vv] below meth c s₁ [] 0 0 := Stand.of_body Bd
  have e0 : s₁.heap = h0 := by rw [← hh, Bd.state]; rfl
  have N0 := Fr.nil n0
  show own_Goes p e below s (Q32n Z a1 a2 vv h0 n0) R32n.cells R32n.slots s₁ (entryFrame m #[(.ref a1), (.ref a2), vv] 3)
  rw [ef_32n m a1 a2 vv (XT.cat1 X_vv.isR)]
  refine own_step (f' := (mkF m 1 #[.val (.ref a1), .val (.ref a2), .val vv] [(.ref a1)])) (fun _ k => XS.aloadN X0.here hx rfl (hb hby d32_0) rfl rfl k) ?_
  refine own_step (f' := (mkF m 2 #[.val (.ref a1), .val (.ref a2), .val vv] [(.ref a2), (.ref a1)])) (fun _ k => XS.aloadN X0.here hx rfl (hb hby d32_1) rfl rfl k) ?_
  refine own_step (f' := (mkF m 3 #[.val (.ref a1), .val (.ref a2), .val vv] [vv, (.ref a2), (.ref a1)])) (fun _ k => XS.aloadN X0.here hx rfl (hb hby d32_2) rfl X_vv.isR k) ?_
  have Zq1 : n0 ≤ h0.size := Z0
  obtain ⟨cq1, kq1, q1a, q1b, q1c⟩ := isOf hZ e0 E_a1
  obtain ⟨_, _, ⟨T1, L1, k1, n1⟩, -, X1, ⟨Lc1, hQ1, l1, y1, z1⟩, st1⟩ := X0.virtualBack hx (y := (⟨own_AC, "add", "(Lcom/example/valbonne/valbonne/codec/Name;Ljava/lang/String;)V"⟩ : MethodName)) (z := (⟨own_AC, "add", "(Lcom/example/valbonne/valbonne/codec/Name;Ljava/lang/String;)V"⟩ : MethodName)) hown (mvT hZ (own_w177 hw)) (mvT hZ (own_w178 hw)) (notFace_of_selects (args := #[]) (mvT hZ (own_w180 hw))) (mvT hZ (own_w180 hw)) (mvT hZ (own_w179 hw)) (by decide) (backOf (W := 0) (rm22n l Z a0 hw [] a1 a2 vv h0 n0 Zq1 X_vv F_reading_a1) hZ (own_w181 hw) (own_w60 hw) (by decide) (by decide)) q1a q1c (g := (mkF m 3 #[.val (.ref a1), .val (.ref a2), .val vv] [vv, (.ref a2), (.ref a1)])) rfl (by rw [hml]; rfl) (Steps.refl _) (argsL := [(.ref a2), vv]) (rest := []) (lenOf pd_11 rfl) rfl (by show 2 * 0 + _ ≤ _; exact Nat.le_of_eq rfl) (hb hby d32_3) (fun _ _ => ⟨rfl, e0, (by decide : 0 + 0 ≤ _), (by decide : 0 + 0 ≤ _)⟩)
  dsimp only [Pt.U, Pt.locs, Pt.cells, Pt.slots] at X1 l1 y1 z1 st1 hQ1
  subst l1 y1 z1
  obtain ⟨rfl, rfl, e1⟩ := hQ1
  try rw [List.append_nil] at X1
  refine own_jump (f' := (mkF m 6 #[.val (.ref a1), .val (.ref a2), .val vv] [])) st1 ?_
  refine own_step (f' := (mkF m 7 #[.val (.ref a1), .val (.ref a2), .val vv] [(.ref a1)])) (fun _ k => XS.aloadN X1.here hx rfl (hb hby d32_6) rfl rfl k) ?_
  refine own_step (f' := (mkF m 8 #[.val (.ref a1), .val (.ref a2), .val vv] [(.ref a2), (.ref a1)])) (fun _ k => XS.aloadN X1.here hx rfl (hb hby d32_7) rfl rfl k) ?_
  refine own_step (f' := (mkF m 9 #[.val (.ref a1), .val (.ref a2), .val vv] [vv, (.ref a2), (.ref a1)])) (fun _ k => XS.aloadN X1.here hx rfl (hb hby d32_8) rfl X_vv.isR k) ?_
  have Zq2 : n0 ≤ h0.size := Z0
  obtain ⟨cq2, kq2, q2a, q2b, q2c⟩ := isOf hZ e1 E_a1
  obtain ⟨_, _, ⟨T2, L2, k2, n2⟩, -, X2, ⟨Lc2, hQ2, l2, y2, z2⟩, st2⟩ := X1.virtualBack hx (y := (⟨own_AC, "add", "(Lcom/example/valbonne/valbonne/codec/Name;Ljava/lang/String;)V"⟩ : MethodName)) (z := (⟨own_AC, "add", "(Lcom/example/valbonne/valbonne/codec/Name;Ljava/lang/String;)V"⟩ : MethodName)) hown (mvT hZ (own_w177 hw)) (mvT hZ (own_w178 hw)) (notFace_of_selects (args := #[]) (mvT hZ (own_w180 hw))) (mvT hZ (own_w180 hw)) (mvT hZ (own_w179 hw)) (by decide) (backOf (W := 0) (rm22n l Z a0 hw [] a1 a2 vv h0 n0 Zq2 X_vv F_reading_a1) hZ (own_w181 hw) (own_w60 hw) (by decide) (by decide)) q2a q2c (g := (mkF m 9 #[.val (.ref a1), .val (.ref a2), .val vv] [vv, (.ref a2), (.ref a1)])) rfl (by rw [hml]; rfl) (Steps.refl _) (argsL := [(.ref a2), vv]) (rest := []) (lenOf pd_11 rfl) rfl (by show 2 * 0 + _ ≤ _; exact Nat.le_of_eq rfl) (hb hby d32_9) (fun _ _ => ⟨rfl, e1, (by decide : 0 + 0 ≤ _), (by decide : 0 + 0 ≤ _)⟩)
  dsimp only [Pt.U, Pt.locs, Pt.cells, Pt.slots] at X2 l2 y2 z2 st2 hQ2
  subst l2 y2 z2
  obtain ⟨rfl, rfl, e2⟩ := hQ2
  try rw [List.append_nil] at X2
  refine own_jump (f' := (mkF m 12 #[.val (.ref a1), .val (.ref a2), .val vv] [])) st2 ?_
  refine own_step (f' := (mkF m 13 #[.val (.ref a1), .val (.ref a2), .val vv] [(.ref a1)])) (fun _ k => XS.aloadN X2.here hx rfl (hb hby d32_12) rfl rfl k) ?_
  refine own_step (f' := (mkF m 14 #[.val (.ref a1), .val (.ref a2), .val vv] [(.ref a2), (.ref a1)])) (fun _ k => XS.aloadN X2.here hx rfl (hb hby d32_13) rfl rfl k) ?_
  refine own_step (f' := (mkF m 15 #[.val (.ref a1), .val (.ref a2), .val vv] [vv, (.ref a2), (.ref a1)])) (fun _ k => XS.aloadN X2.here hx rfl (hb hby d32_14) rfl X_vv.isR k) ?_
  have Zq3 : n0 ≤ h0.size := Z0
  obtain ⟨cq3, kq3, q3a, q3b, q3c⟩ := isOf hZ e2 E_a1
  obtain ⟨_, _, ⟨T3, L3, k3, n3⟩, -, X3, ⟨Lc3, hQ3, l3, y3, z3⟩, st3⟩ := X2.virtualBack hx (y := (⟨own_AC, "add", "(Lcom/example/valbonne/valbonne/codec/Name;Ljava/lang/String;)V"⟩ : MethodName)) (z := (⟨own_AC, "add", "(Lcom/example/valbonne/valbonne/codec/Name;Ljava/lang/String;)V"⟩ : MethodName)) hown (mvT hZ (own_w177 hw)) (mvT hZ (own_w178 hw)) (notFace_of_selects (args := #[]) (mvT hZ (own_w180 hw))) (mvT hZ (own_w180 hw)) (mvT hZ (own_w179 hw)) (by decide) (backOf (W := 0) (rm22n l Z a0 hw [] a1 a2 vv h0 n0 Zq3 X_vv F_reading_a1) hZ (own_w181 hw) (own_w60 hw) (by decide) (by decide)) q3a q3c (g := (mkF m 15 #[.val (.ref a1), .val (.ref a2), .val vv] [vv, (.ref a2), (.ref a1)])) rfl (by rw [hml]; rfl) (Steps.refl _) (argsL := [(.ref a2), vv]) (rest := []) (lenOf pd_11 rfl) rfl (by show 2 * 0 + _ ≤ _; exact Nat.le_of_eq rfl) (hb hby d32_15) (fun _ _ => ⟨rfl, e2, (by decide : 0 + 0 ≤ _), (by decide : 0 + 0 ≤ _)⟩)
  dsimp only [Pt.U, Pt.locs, Pt.cells, Pt.slots] at X3 l3 y3 z3 st3 hQ3
  subst l3 y3 z3
  obtain ⟨rfl, rfl, e3⟩ := hQ3
  try rw [List.append_nil] at X3
  refine own_jump (f' := (mkF m 18 #[.val (.ref a1), .val (.ref a2), .val vv] [])) st3 ?_
  refine own_step (f' := (mkF m 19 #[.val (.ref a1), .val (.ref a2), .val vv] [(.ref a1)])) (fun _ k => XS.aloadN X3.here hx rfl (hb hby d32_18) rfl rfl k) ?_
  refine own_step (f' := (mkF m 20 #[.val (.ref a1), .val (.ref a2), .val vv] [(.ref a2), (.ref a1)])) (fun _ k => XS.aloadN X3.here hx rfl (hb hby d32_19) rfl rfl k) ?_
  refine own_step (f' := (mkF m 21 #[.val (.ref a1), .val (.ref a2), .val vv] [vv, (.ref a2), (.ref a1)])) (fun _ k => XS.aloadN X3.here hx rfl (hb hby d32_20) rfl X_vv.isR k) ?_
  have Zq4 : n0 ≤ h0.size := Z0
  obtain ⟨cq4, kq4, q4a, q4b, q4c⟩ := isOf hZ e3 E_a1
  obtain ⟨_, _, ⟨T4, L4, k4, n4⟩, -, X4, ⟨Lc4, hQ4, l4, y4, z4⟩, st4⟩ := X3.virtualBack hx (y := (⟨own_AC, "add", "(Lcom/example/valbonne/valbonne/codec/Name;Ljava/lang/String;)V"⟩ : MethodName)) (z := (⟨own_AC, "add", "(Lcom/example/valbonne/valbonne/codec/Name;Ljava/lang/String;)V"⟩ : MethodName)) hown (mvT hZ (own_w177 hw)) (mvT hZ (own_w178 hw)) (notFace_of_selects (args := #[]) (mvT hZ (own_w180 hw))) (mvT hZ (own_w180 hw)) (mvT hZ (own_w179 hw)) (by decide) (backOf (W := 0) (rm22n l Z a0 hw [] a1 a2 vv h0 n0 Zq4 X_vv F_reading_a1) hZ (own_w181 hw) (own_w60 hw) (by decide) (by decide)) q4a q4c (g := (mkF m 21 #[.val (.ref a1), .val (.ref a2), .val vv] [vv, (.ref a2), (.ref a1)])) rfl (by rw [hml]; rfl) (Steps.refl _) (argsL := [(.ref a2), vv]) (rest := []) (lenOf pd_11 rfl) rfl (by show 2 * 0 + _ ≤ _; exact Nat.le_of_eq rfl) (hb hby d32_21) (fun _ _ => ⟨rfl, e3, (by decide : 0 + 0 ≤ _), (by decide : 0 + 0 ≤ _)⟩)
  dsimp only [Pt.U, Pt.locs, Pt.cells, Pt.slots] at X4 l4 y4 z4 st4 hQ4
  subst l4 y4 z4
  obtain ⟨rfl, rfl, e4⟩ := hQ4
  try rw [List.append_nil] at X4
  refine own_jump (f' := (mkF m 24 #[.val (.ref a1), .val (.ref a2), .val vv] [])) st4 ?_
  refine own_out (v := none) X4 hlk (fun _ => rfl) (fun fs hr => X4.returnOut hx Bd.returns (hb hby d32_24) hr) (by decide) (by decide) ?_
  rw [e4]
  exact ⟨rfl, rfl, rfl⟩
theorem ef_32b (m : MethodId) (x0 : Addr) (x1 : Addr) (x2 : Value) (hx2 : x2.category = 1) : entryFrame m #[(.ref x0), (.ref x1), x2] 3 = mkF m 0 #[.val (.ref x0), .val (.ref x1), .val x2] [] := by first | (simp [entryFrame, mkF, argsToLocals, hx2, show ∀ a, (Value.ref a).category = 1 from fun _ => rfl, show ∀ a, (Value.int a).category = 1 from fun _ => rfl]; done) | (cases x2 <;> first | rfl | (simp [Value.category] at *))
def Q32b (Z : State) (a1 : Addr) (a2 : Addr) (vv : Value) (ka : Addr) (cg : Addr) (bb : Addr) (bn : Addr) (bv : Addr) (kk : ClassId) (kb : ClassId) (kn : ClassId) (kv : ClassId) (st : own_St) (h0 : Heap) (n0 : Nat) (v : Option Value) (h : Heap) (L : List Loc) : Prop := v = none ∧ Fr n0 L ∧ Keep h0 h [a1, cg, bn, bv] ∧ own_Inv Z h a1 ka cg bb bn bv kk kb kn kv (own_four st a2 vv)
abbrev R32b : Room := { frames := 1, cells := 0, slots := 0, locals := 14 }
set_option maxRecDepth 65536 in
set_option maxHeartbeats 40000000 in
theorem rm32b (l : Launch) (Z : State) (a0 : Array Value) (hw : ∀ d ∈ tables_1, d.before a0 Z = true) (ws : List Jvm.Cond) (a1 : Addr) (a2 : Addr) (vv : Value) (ka : Addr) (cg : Addr) (bb : Addr) (bn : Addr) (bv : Addr) (kk : ClassId) (kb : ClassId) (kn : ClassId) (kv : ClassId) (st : own_St) (h0 : Heap) (n0 : Nat) (Z0 : n0 ≤ h0.size) (X_vv : own_Opt Z h0 vv "java/lang/String") (E_a2 : Exa Z h0 a2 own_NM) (hD : own_Dis Z n0 a1 ka cg bb bn bv kk kb kn kv) (hI : own_Inv Z h0 a1 ka cg bb bn bv kk kb kn kv st) (E_a1 : Exa Z h0 a1 own_AC) :
    MetFree l (⟨"com/example/valbonne/valbonne/codec/AttributeCodingsAddPinLaw", "addFour", "(Lcom/example/valbonne/valbonne/codec/AttributeCodings;Lcom/example/valbonne/valbonne/codec/Name;Ljava/lang/String;)V"⟩ : MethodName) (head1 (Jvm.Cond.code (⟨"com/example/valbonne/valbonne/codec/AttributeCodingsAddPinLaw", "addFour", "(Lcom/example/valbonne/valbonne/codec/AttributeCodings;Lcom/example/valbonne/valbonne/codec/Name;Ljava/lang/String;)V"⟩ : MethodName) method_3_code 3 none :: ws) R32b) (fun a U => a = #[(.ref a1), (.ref a2), vv] ∧ Z.Warmed39 U.vm ∧ U.heap = h0) (fun _ _ _ _ _ => True) (fun _ U o U' => ∃ v L, o = .returned v ∧ Q32b Z a1 a2 vv ka cg bb bn bv kk kb kn kv st h0 n0 v U'.heap L ∧ FrameEnd U o U' L R32b.cells R32b.slots) := by
  refine MetFree.of_bodySF (plainFor_of_name pn_8) hisR ?_
  intro p e s m args below meth c s₁ Bd hml0 hP hK
  obtain ⟨rfl, hZ, hh⟩ := hP
  have hx := Bd.exec
  have hby := Bd.bytes
  have hlk : meth.locks = false := BodyLoose.notSynchronized Bd
  have hml : c.maxLocals = 3 := hml0
  have hown : s.vm.findClass "com/example/valbonne/valbonne/codec/AttributeCodingsAddPinLaw" = some m.cls := findClass_of_methodNamed Bd.named
  have hnm := (name_of_methodNamed Bd.named Bd.method).1
  have X0 : Stand p l e R32b s m #[(.ref a1), (.ref a2), vv] below meth c s₁ [] 0 0 := Stand.of_body Bd
  have e0 : s₁.heap = h0 := by rw [← hh, Bd.state]; rfl
  have N0 := Fr.nil n0
  show own_Goes p e below s (Q32b Z a1 a2 vv ka cg bb bn bv kk kb kn kv st h0 n0) R32b.cells R32b.slots s₁ (entryFrame m #[(.ref a1), (.ref a2), vv] 3)
  rw [ef_32b m a1 a2 vv (XT.cat1 X_vv.isR)]
  refine own_step (f' := (mkF m 1 #[.val (.ref a1), .val (.ref a2), .val vv] [(.ref a1)])) (fun _ k => XS.aloadN X0.here hx rfl (hb hby d32_0) rfl rfl k) ?_
  refine own_step (f' := (mkF m 2 #[.val (.ref a1), .val (.ref a2), .val vv] [(.ref a2), (.ref a1)])) (fun _ k => XS.aloadN X0.here hx rfl (hb hby d32_1) rfl rfl k) ?_
  refine own_step (f' := (mkF m 3 #[.val (.ref a1), .val (.ref a2), .val vv] [vv, (.ref a2), (.ref a1)])) (fun _ k => XS.aloadN X0.here hx rfl (hb hby d32_2) rfl X_vv.isR k) ?_
  have hp1_hD : own_Dis Z n0 a1 ka cg bb bn bv kk kb kn kv := hD
  have hp1_hI : own_Inv Z h0 a1 ka cg bb bn bv kk kb kn kv st := hI
  have Zq1 : n0 ≤ h0.size := Z0
  obtain ⟨cq1, kq1, q1a, q1b, q1c⟩ := isOf hZ e0 E_a1
  obtain ⟨_, _, ⟨T1, L1, k1, n1⟩, -, X1, ⟨Lc1, hQ1, l1, y1, z1⟩, st1⟩ := X0.virtualBack hx (y := (⟨own_AC, "add", "(Lcom/example/valbonne/valbonne/codec/Name;Ljava/lang/String;)V"⟩ : MethodName)) (z := (⟨own_AC, "add", "(Lcom/example/valbonne/valbonne/codec/Name;Ljava/lang/String;)V"⟩ : MethodName)) hown (mvT hZ (own_w177 hw)) (mvT hZ (own_w178 hw)) (notFace_of_selects (args := #[]) (mvT hZ (own_w180 hw))) (mvT hZ (own_w180 hw)) (mvT hZ (own_w179 hw)) (by decide) (backOf (W := 0) (rm22b l Z a0 hw [] a1 a2 vv ka cg bb bn bv kk kb kn kv st h0 n0 Zq1 X_vv E_a2 hp1_hD hp1_hI) hZ (own_w181 hw) (own_w60 hw) (by decide) (by decide)) q1a q1c (g := (mkF m 3 #[.val (.ref a1), .val (.ref a2), .val vv] [vv, (.ref a2), (.ref a1)])) rfl (by rw [hml]; rfl) (Steps.refl _) (argsL := [(.ref a2), vv]) (rest := []) (lenOf pd_11 rfl) rfl (by show 2 * 0 + _ ≤ _; exact Nat.le_of_eq rfl) (hb hby d32_3) (fun _ _ => ⟨rfl, e0, (by decide : 0 + 0 ≤ _), (by decide : 0 + 0 ≤ _)⟩)
  dsimp only [Pt.U, Pt.locs, Pt.cells, Pt.slots] at X1 l1 y1 z1 st1 hQ1
  subst l1 y1 z1
  obtain ⟨rfl, Nq1, K1, I1⟩ := hQ1
  obtain ⟨Lo1, X1, N1⟩ : ∃ K, Stand p l e R32b s m #[(.ref a1), (.ref a2), vv] below meth c T1 K 0 0 ∧ Fr n0 K := ⟨_, X1, (Fr.app N0 Nq1)⟩
  refine own_jump (f' := (mkF m 6 #[.val (.ref a1), .val (.ref a2), .val vv] [])) st1 ?_
  refine own_step (f' := (mkF m 7 #[.val (.ref a1), .val (.ref a2), .val vv] [(.ref a1)])) (fun _ k => XS.aloadN X1.here hx rfl (hb hby d32_6) rfl rfl k) ?_
  refine own_step (f' := (mkF m 8 #[.val (.ref a1), .val (.ref a2), .val vv] [(.ref a2), (.ref a1)])) (fun _ k => XS.aloadN X1.here hx rfl (hb hby d32_7) rfl rfl k) ?_
  refine own_step (f' := (mkF m 9 #[.val (.ref a1), .val (.ref a2), .val vv] [vv, (.ref a2), (.ref a1)])) (fun _ k => XS.aloadN X1.here hx rfl (hb hby d32_8) rfl X_vv.isR k) ?_
  have hp2_hD : own_Dis Z n0 a1 ka cg bb bn bv kk kb kn kv := hD
  have hp2_hI : own_Inv Z T1.heap a1 ka cg bb bn bv kk kb kn kv (own_add st a2 vv) := I1
  have Zq2 : n0 ≤ T1.heap.size := (Nat.le_trans Z0 K1.1)
  obtain ⟨cq2, kq2, q2a, q2b, q2c⟩ := isOf hZ rfl (E_a1.keep K1)
  obtain ⟨_, _, ⟨T2, L2, k2, n2⟩, -, X2, ⟨Lc2, hQ2, l2, y2, z2⟩, st2⟩ := X1.virtualBack hx (y := (⟨own_AC, "add", "(Lcom/example/valbonne/valbonne/codec/Name;Ljava/lang/String;)V"⟩ : MethodName)) (z := (⟨own_AC, "add", "(Lcom/example/valbonne/valbonne/codec/Name;Ljava/lang/String;)V"⟩ : MethodName)) hown (mvT hZ (own_w177 hw)) (mvT hZ (own_w178 hw)) (notFace_of_selects (args := #[]) (mvT hZ (own_w180 hw))) (mvT hZ (own_w180 hw)) (mvT hZ (own_w179 hw)) (by decide) (backOf (W := 0) (rm22b l Z a0 hw [] a1 a2 vv ka cg bb bn bv kk kb kn kv (own_add st a2 vv) T1.heap n0 Zq2 (X_vv.keep K1) (E_a2.keep K1) hp2_hD hp2_hI) hZ (own_w181 hw) (own_w60 hw) (by decide) (by decide)) q2a q2c (g := (mkF m 9 #[.val (.ref a1), .val (.ref a2), .val vv] [vv, (.ref a2), (.ref a1)])) rfl (by rw [hml]; rfl) (Steps.refl _) (argsL := [(.ref a2), vv]) (rest := []) (lenOf pd_11 rfl) rfl (by show 2 * 0 + _ ≤ _; exact Nat.le_of_eq rfl) (hb hby d32_9) (fun _ _ => ⟨rfl, rfl, (by decide : 0 + 0 ≤ _), (by decide : 0 + 0 ≤ _)⟩)
  dsimp only [Pt.U, Pt.locs, Pt.cells, Pt.slots] at X2 l2 y2 z2 st2 hQ2
  subst l2 y2 z2
  obtain ⟨rfl, Nq2, K2, I2⟩ := hQ2
  obtain ⟨Lo2, X2, N2⟩ : ∃ K, Stand p l e R32b s m #[(.ref a1), (.ref a2), vv] below meth c T2 K 0 0 ∧ Fr n0 K := ⟨_, X2, (Fr.app N1 Nq2)⟩
  refine own_jump (f' := (mkF m 12 #[.val (.ref a1), .val (.ref a2), .val vv] [])) st2 ?_
  refine own_step (f' := (mkF m 13 #[.val (.ref a1), .val (.ref a2), .val vv] [(.ref a1)])) (fun _ k => XS.aloadN X2.here hx rfl (hb hby d32_12) rfl rfl k) ?_
  refine own_step (f' := (mkF m 14 #[.val (.ref a1), .val (.ref a2), .val vv] [(.ref a2), (.ref a1)])) (fun _ k => XS.aloadN X2.here hx rfl (hb hby d32_13) rfl rfl k) ?_
  refine own_step (f' := (mkF m 15 #[.val (.ref a1), .val (.ref a2), .val vv] [vv, (.ref a2), (.ref a1)])) (fun _ k => XS.aloadN X2.here hx rfl (hb hby d32_14) rfl X_vv.isR k) ?_
  have hp3_hD : own_Dis Z n0 a1 ka cg bb bn bv kk kb kn kv := hD
  have hp3_hI : own_Inv Z T2.heap a1 ka cg bb bn bv kk kb kn kv (own_add (own_add st a2 vv) a2 vv) := I2
  have Zq3 : n0 ≤ T2.heap.size := (Nat.le_trans (Nat.le_trans Z0 K1.1) K2.1)
  obtain ⟨cq3, kq3, q3a, q3b, q3c⟩ := isOf hZ rfl ((E_a1.keep K1).keep K2)
  obtain ⟨_, _, ⟨T3, L3, k3, n3⟩, -, X3, ⟨Lc3, hQ3, l3, y3, z3⟩, st3⟩ := X2.virtualBack hx (y := (⟨own_AC, "add", "(Lcom/example/valbonne/valbonne/codec/Name;Ljava/lang/String;)V"⟩ : MethodName)) (z := (⟨own_AC, "add", "(Lcom/example/valbonne/valbonne/codec/Name;Ljava/lang/String;)V"⟩ : MethodName)) hown (mvT hZ (own_w177 hw)) (mvT hZ (own_w178 hw)) (notFace_of_selects (args := #[]) (mvT hZ (own_w180 hw))) (mvT hZ (own_w180 hw)) (mvT hZ (own_w179 hw)) (by decide) (backOf (W := 0) (rm22b l Z a0 hw [] a1 a2 vv ka cg bb bn bv kk kb kn kv (own_add (own_add st a2 vv) a2 vv) T2.heap n0 Zq3 ((X_vv.keep K1).keep K2) ((E_a2.keep K1).keep K2) hp3_hD hp3_hI) hZ (own_w181 hw) (own_w60 hw) (by decide) (by decide)) q3a q3c (g := (mkF m 15 #[.val (.ref a1), .val (.ref a2), .val vv] [vv, (.ref a2), (.ref a1)])) rfl (by rw [hml]; rfl) (Steps.refl _) (argsL := [(.ref a2), vv]) (rest := []) (lenOf pd_11 rfl) rfl (by show 2 * 0 + _ ≤ _; exact Nat.le_of_eq rfl) (hb hby d32_15) (fun _ _ => ⟨rfl, rfl, (by decide : 0 + 0 ≤ _), (by decide : 0 + 0 ≤ _)⟩)
  dsimp only [Pt.U, Pt.locs, Pt.cells, Pt.slots] at X3 l3 y3 z3 st3 hQ3
  subst l3 y3 z3
  obtain ⟨rfl, Nq3, K3, I3⟩ := hQ3
  obtain ⟨Lo3, X3, N3⟩ : ∃ K, Stand p l e R32b s m #[(.ref a1), (.ref a2), vv] below meth c T3 K 0 0 ∧ Fr n0 K := ⟨_, X3, (Fr.app N2 Nq3)⟩
  refine own_jump (f' := (mkF m 18 #[.val (.ref a1), .val (.ref a2), .val vv] [])) st3 ?_
  refine own_step (f' := (mkF m 19 #[.val (.ref a1), .val (.ref a2), .val vv] [(.ref a1)])) (fun _ k => XS.aloadN X3.here hx rfl (hb hby d32_18) rfl rfl k) ?_
  refine own_step (f' := (mkF m 20 #[.val (.ref a1), .val (.ref a2), .val vv] [(.ref a2), (.ref a1)])) (fun _ k => XS.aloadN X3.here hx rfl (hb hby d32_19) rfl rfl k) ?_
  refine own_step (f' := (mkF m 21 #[.val (.ref a1), .val (.ref a2), .val vv] [vv, (.ref a2), (.ref a1)])) (fun _ k => XS.aloadN X3.here hx rfl (hb hby d32_20) rfl X_vv.isR k) ?_
  have hp4_hD : own_Dis Z n0 a1 ka cg bb bn bv kk kb kn kv := hD
  have hp4_hI : own_Inv Z T3.heap a1 ka cg bb bn bv kk kb kn kv (own_add (own_add (own_add st a2 vv) a2 vv) a2 vv) := I3
  have Zq4 : n0 ≤ T3.heap.size := (Nat.le_trans (Nat.le_trans (Nat.le_trans Z0 K1.1) K2.1) K3.1)
  obtain ⟨cq4, kq4, q4a, q4b, q4c⟩ := isOf hZ rfl (((E_a1.keep K1).keep K2).keep K3)
  obtain ⟨_, _, ⟨T4, L4, k4, n4⟩, -, X4, ⟨Lc4, hQ4, l4, y4, z4⟩, st4⟩ := X3.virtualBack hx (y := (⟨own_AC, "add", "(Lcom/example/valbonne/valbonne/codec/Name;Ljava/lang/String;)V"⟩ : MethodName)) (z := (⟨own_AC, "add", "(Lcom/example/valbonne/valbonne/codec/Name;Ljava/lang/String;)V"⟩ : MethodName)) hown (mvT hZ (own_w177 hw)) (mvT hZ (own_w178 hw)) (notFace_of_selects (args := #[]) (mvT hZ (own_w180 hw))) (mvT hZ (own_w180 hw)) (mvT hZ (own_w179 hw)) (by decide) (backOf (W := 0) (rm22b l Z a0 hw [] a1 a2 vv ka cg bb bn bv kk kb kn kv (own_add (own_add (own_add st a2 vv) a2 vv) a2 vv) T3.heap n0 Zq4 (((X_vv.keep K1).keep K2).keep K3) (((E_a2.keep K1).keep K2).keep K3) hp4_hD hp4_hI) hZ (own_w181 hw) (own_w60 hw) (by decide) (by decide)) q4a q4c (g := (mkF m 21 #[.val (.ref a1), .val (.ref a2), .val vv] [vv, (.ref a2), (.ref a1)])) rfl (by rw [hml]; rfl) (Steps.refl _) (argsL := [(.ref a2), vv]) (rest := []) (lenOf pd_11 rfl) rfl (by show 2 * 0 + _ ≤ _; exact Nat.le_of_eq rfl) (hb hby d32_21) (fun _ _ => ⟨rfl, rfl, (by decide : 0 + 0 ≤ _), (by decide : 0 + 0 ≤ _)⟩)
  dsimp only [Pt.U, Pt.locs, Pt.cells, Pt.slots] at X4 l4 y4 z4 st4 hQ4
  subst l4 y4 z4
  obtain ⟨rfl, Nq4, K4, I4⟩ := hQ4
  obtain ⟨Lo4, X4, N4⟩ : ∃ K, Stand p l e R32b s m #[(.ref a1), (.ref a2), vv] below meth c T4 K 0 0 ∧ Fr n0 K := ⟨_, X4, (Fr.app N3 Nq4)⟩
  refine own_jump (f' := (mkF m 24 #[.val (.ref a1), .val (.ref a2), .val vv] [])) st4 ?_
  refine own_out (v := none) X4 hlk (fun _ => rfl) (fun fs hr => X4.returnOut hx Bd.returns (hb hby d32_24) hr) (by decide) (by decide) ?_
  exact ⟨rfl, N4, (((((Keep.refl h0 [a1, cg, bn, bv]).trans K1 (allS (Or.inl (List.mem_of_getElem? (i := 0) rfl)) (allS (Or.inl (List.mem_of_getElem? (i := 1) rfl)) (allS (Or.inl (List.mem_of_getElem? (i := 2) rfl)) (allS (Or.inl (List.mem_of_getElem? (i := 3) rfl)) all0))))).trans K2 (allS (Or.inl (List.mem_of_getElem? (i := 0) rfl)) (allS (Or.inl (List.mem_of_getElem? (i := 1) rfl)) (allS (Or.inl (List.mem_of_getElem? (i := 2) rfl)) (allS (Or.inl (List.mem_of_getElem? (i := 3) rfl)) all0))))).trans K3 (allS (Or.inl (List.mem_of_getElem? (i := 0) rfl)) (allS (Or.inl (List.mem_of_getElem? (i := 1) rfl)) (allS (Or.inl (List.mem_of_getElem? (i := 2) rfl)) (allS (Or.inl (List.mem_of_getElem? (i := 3) rfl)) all0))))).trans K4 (allS (Or.inl (List.mem_of_getElem? (i := 0) rfl)) (allS (Or.inl (List.mem_of_getElem? (i := 1) rfl)) (allS (Or.inl (List.mem_of_getElem? (i := 2) rfl)) (allS (Or.inl (List.mem_of_getElem? (i := 3) rfl)) all0))))), I4⟩
theorem own_w96 {a0 Z} (hw : own_HW a0 Z) : (Cond.fieldLink "com/example/valbonne/valbonne/codec/StreamInput" (26 : Nat) "com/example/valbonne/valbonne/codec/StreamInput" "bytes" "[B").before a0 Z = true := own_at hw 96 rfl
theorem own_w195 {a0 Z} (hw : own_HW a0 Z) : (Cond.methodLink "com/example/valbonne/valbonne/codec/StreamInput" (90 : Nat) ⟨"java/lang/System", "arraycopy", "(Ljava/lang/Object;ILjava/lang/Object;II)V"⟩).before a0 Z = true := own_at hw 195 rfl
theorem own_w198 {a0 Z} (hw : own_HW a0 Z) : (Cond.native ⟨"java/lang/System", "arraycopy", "(Ljava/lang/Object;ILjava/lang/Object;II)V"⟩).before a0 Z = true := own_at hw 198 rfl
theorem own_w196 {a0 Z} (hw : own_HW a0 Z) : (Cond.static ⟨"java/lang/System", "arraycopy", "(Ljava/lang/Object;ILjava/lang/Object;II)V"⟩).before a0 Z = true := own_at hw 196 rfl
theorem own_w197 {a0 Z} (hw : own_HW a0 Z) : (Cond.initialized "java/lang/System").before a0 Z = true := own_at hw 197 rfl
theorem d23_0 : decode prog_83_method_15_code 0 = .ok (.aload_n 0, 1) := by decide +kernel
theorem d23_1 : decode prog_83_method_15_code 1 = .ok (.getfield 26, 3) := by decide +kernel
theorem d23_4 : decode prog_83_method_15_code 4 = .ok (.lload_n 1, 1) := by decide +kernel
theorem d23_5 : decode prog_83_method_15_code 5 = .ok (.aload_n 0, 1) := by decide +kernel
theorem d23_6 : decode prog_83_method_15_code 6 = .ok (.getfield 74, 3) := by decide +kernel
theorem d23_9 : decode prog_83_method_15_code 9 = .ok (.lsub, 1) := by decide +kernel
theorem d23_10 : decode prog_83_method_15_code 10 = .ok (.l2i, 1) := by decide +kernel
theorem d23_11 : decode prog_83_method_15_code 11 = .ok (.aload_n 3, 1) := by decide +kernel
theorem d23_12 : decode prog_83_method_15_code 12 = .ok (.iconst 0, 1) := by decide +kernel
theorem d23_13 : decode prog_83_method_15_code 13 = .ok (.iload 4, 2) := by decide +kernel
theorem d23_15 : decode prog_83_method_15_code 15 = .ok (.invokestatic 90, 3) := by decide +kernel
theorem d23_18 : decode prog_83_method_15_code 18 = .ok (.return_, 1) := by decide +kernel
theorem ef_23 (m : MethodId) (x0 : Addr) (x1 : Int64) (x2 : Addr) (x3 : Int32) : entryFrame m #[(.ref x0), (.long x1), (.ref x2), (.int x3)] 5 = mkF m 0 #[.val (.ref x0), .val (.long x1), .second, .val (.ref x2), .val (.int x3)] [] := by first | (simp [entryFrame, mkF, argsToLocals, Value.category]; done) | rfl
def Q23 (Z : State) (a1 : Addr) (bb : Addr) (zb : Addr) (kz : ClassId) (kb : ClassId) (h0 : Heap) (n0 : Nat) (v : Option Value) (h : Heap) (L : List Loc) : Prop := v = none ∧ Fr n0 L ∧ Keep h0 h [bb] ∧ Arv Z h bb kb .byte (64 : Int32) [] (.int (0 : Int32))
abbrev R23 : Room := { frames := 1, cells := 0, slots := 0, locals := 40 }
set_option maxRecDepth 65536 in
set_option maxHeartbeats 40000000 in
theorem rm23 (l : Launch) (Z : State) (a0 : Array Value) (hw : ∀ d ∈ tables_1, d.before a0 Z = true) (ws : List Jvm.Cond) (a1 : Addr) (bb : Addr) (zb : Addr) (kz : ClassId) (kb : ClassId) (h0 : Heap) (n0 : Nat) (Z0 : n0 ≤ h0.size) (F_bytes_a1 : Fld Z h0 a1 own_SI "bytes" "[B" (.ref zb)) (F_offset_a1 : Fld Z h0 a1 own_SI "offset" "J" (.long (0 : Int64))) (V_zb : Arv Z h0 zb kz .byte (0 : Int32) [] (.int (0 : Int32))) (V_bb : Arv Z h0 bb kb .byte (64 : Int32) [] (.int (0 : Int32))) (g_bb : n0 ≤ bb) :
    MetFree l (⟨own_SI, "copyRead", "(J[BI)V"⟩ : MethodName) (head1 (Jvm.Cond.code (⟨own_SI, "copyRead", "(J[BI)V"⟩ : MethodName) prog_83_method_15_code 5 none :: ws) R23) (fun a U => a = #[(.ref a1), (.long (0 : Int64)), (.ref bb), (.int (0 : Int32))] ∧ Z.Warmed39 U.vm ∧ U.heap = h0) (fun _ _ _ _ _ => True) (fun _ U o U' => ∃ v L, o = .returned v ∧ Q23 Z a1 bb zb kz kb h0 n0 v U'.heap L ∧ FrameEnd U o U' L R23.cells R23.slots) := by
  refine MetFree.of_bodySF (plainFor_of_name pn_7) hisR ?_
  intro p e s m args below meth c s₁ Bd hml0 hP hK
  obtain ⟨rfl, hZ, hh⟩ := hP
  have hx := Bd.exec
  have hby := Bd.bytes
  have hlk : meth.locks = false := BodyLoose.notSynchronized Bd
  have hml : c.maxLocals = 5 := hml0
  have hown : s.vm.findClass own_SI = some m.cls := findClass_of_methodNamed Bd.named
  have hnm := (name_of_methodNamed Bd.named Bd.method).1
  have X0 : Stand p l e R23 s m #[(.ref a1), (.long (0 : Int64)), (.ref bb), (.int (0 : Int32))] below meth c s₁ [] 0 0 := Stand.of_body Bd
  have e0 : s₁.heap = h0 := by rw [← hh, Bd.state]; rfl
  have N0 := Fr.nil n0
  show own_Goes p e below s (Q23 Z a1 bb zb kz kb h0 n0) R23.cells R23.slots s₁ (entryFrame m #[(.ref a1), (.long (0 : Int64)), (.ref bb), (.int (0 : Int32))] 5)
  rw [ef_23 m a1 (0 : Int64) bb (0 : Int32)]
  refine own_step (f' := (mkF m 1 #[.val (.ref a1), .val (.long (0 : Int64)), .second, .val (.ref bb), .val (.int (0 : Int32))] [(.ref a1)])) (fun _ k => XS.aloadN X0.here hx rfl (hb hby d23_0) rfl rfl k) ?_
  obtain ⟨T1, X1, e1, st1⟩ := getF X0 hx hZ hown (host := "") (Or.inl (own_w96 hw)) Via.refl e0 F_bytes_a1 (g := (mkF m 1 #[.val (.ref a1), .val (.long (0 : Int64)), .second, .val (.ref bb), .val (.int (0 : Int32))] [(.ref a1)])) rfl rfl (hb hby d23_1)
  refine own_step (f' := (mkF m 4 #[.val (.ref a1), .val (.long (0 : Int64)), .second, .val (.ref bb), .val (.int (0 : Int32))] [(.ref zb)])) st1 ?_
  refine own_step (f' := (mkF m 5 #[.val (.ref a1), .val (.long (0 : Int64)), .second, .val (.ref bb), .val (.int (0 : Int32))] [(.long (0 : Int64)), (.ref zb)])) (fun _ k => XS.lloadN X1.here hx rfl (hb hby d23_4) rfl k) ?_
  refine own_step (f' := (mkF m 6 #[.val (.ref a1), .val (.long (0 : Int64)), .second, .val (.ref bb), .val (.int (0 : Int32))] [(.ref a1), (.long (0 : Int64)), (.ref zb)])) (fun _ k => XS.aloadN X1.here hx rfl (hb hby d23_5) rfl rfl k) ?_
  obtain ⟨T2, X2, e2, st2⟩ := getF X1 hx hZ hown (host := "") (Or.inl (own_w120 hw)) Via.refl e1 F_offset_a1 (g := (mkF m 6 #[.val (.ref a1), .val (.long (0 : Int64)), .second, .val (.ref bb), .val (.int (0 : Int32))] [(.ref a1), (.long (0 : Int64)), (.ref zb)])) rfl rfl (hb hby d23_6)
  refine own_step (f' := (mkF m 9 #[.val (.ref a1), .val (.long (0 : Int64)), .second, .val (.ref bb), .val (.int (0 : Int32))] [(.long (0 : Int64)), (.long (0 : Int64)), (.ref zb)])) st2 ?_
  refine own_step (f' := (mkF m 10 #[.val (.ref a1), .val (.long (0 : Int64)), .second, .val (.ref bb), .val (.int (0 : Int32))] [(.long (0 : Int64)), (.ref zb)])) (fun _ k => XS.lsub X2.here hx rfl (hb hby d23_9) rfl k) ?_
  refine own_step (f' := (mkF m 11 #[.val (.ref a1), .val (.long (0 : Int64)), .second, .val (.ref bb), .val (.int (0 : Int32))] [(.int (0 : Int32)), (.ref zb)])) (fun _ k => XS.l2i X2.here hx rfl (hb hby d23_10) rfl k) ?_
  refine own_step (f' := (mkF m 12 #[.val (.ref a1), .val (.long (0 : Int64)), .second, .val (.ref bb), .val (.int (0 : Int32))] [(.ref bb), (.int (0 : Int32)), (.ref zb)])) (fun _ k => XS.aloadN X2.here hx rfl (hb hby d23_11) rfl rfl k) ?_
  refine own_step (f' := (mkF m 13 #[.val (.ref a1), .val (.long (0 : Int64)), .second, .val (.ref bb), .val (.int (0 : Int32))] [(.int (0 : Int32)), (.ref bb), (.int (0 : Int32)), (.ref zb)])) (fun _ k => XS.iconst X2.here hx rfl (hb hby d23_12) k) ?_
  refine own_step (f' := (mkF m 15 #[.val (.ref a1), .val (.long (0 : Int64)), .second, .val (.ref bb), .val (.int (0 : Int32))] [(.int (0 : Int32)), (.int (0 : Int32)), (.ref bb), (.int (0 : Int32)), (.ref zb)])) (fun _ k => XS.iload X2.here hx rfl (hb hby d23_13) rfl k) ?_
  obtain ⟨T3, h3, Lo3, X3, e3, N3, K3, V3, st3⟩ := Jvm.RoadKit.cpA X2 hx hZ hown (own_w195 hw) (own_w198 hw) (own_w196 hw) (own_w197 hw) e2 V_zb V_bb (Or.inl ⟨rfl, rfl⟩) (sp := (0 : Int32)) (dp := (0 : Int32)) (nn := (0 : Int32)) (by decide) (by decide) (by decide) (by decide) (by decide) (us := []) rfl (by decide) N0 g_bb (g := (mkF m 15 #[.val (.ref a1), .val (.long (0 : Int64)), .second, .val (.ref bb), .val (.int (0 : Int32))] [(.int (0 : Int32)), (.int (0 : Int32)), (.ref bb), (.int (0 : Int32)), (.ref zb)])) rfl (by rw [hml]; rfl) rfl (hb hby d23_15) (by decide) (W := 0) (by show 2 * 0 + _ ≤ _; exact Nat.le_of_eq rfl) (by decide)
  have V3' : Arv Z h3 bb kb .byte (64 : Int32) [] (.int (0 : Int32)) := V3
  refine own_step (f' := (mkF m 18 #[.val (.ref a1), .val (.long (0 : Int64)), .second, .val (.ref bb), .val (.int (0 : Int32))] [])) st3 ?_
  refine own_out (v := none) X3 hlk (fun _ => rfl) (fun fs hr => X3.returnOut hx Bd.returns (hb hby d23_18) hr) (by decide) (by decide) ?_
  rw [e3]
  exact ⟨rfl, N3, ((Keep.refl h0 [bb]).trans K3 (allS (Or.inl (List.mem_of_getElem? (i := 0) rfl)) all0)), V3'⟩
theorem d15_0 : decode prog_11_method_5_code 0 = .ok (.aload_n 1, 1) := by decide +kernel
theorem d15_1 : decode prog_11_method_5_code 1 = .ok (.invokevirtual 59, 3) := by decide +kernel
theorem d15_4 : decode prog_11_method_5_code 4 = .ok (.aload_n 0, 1) := by decide +kernel
theorem d15_5 : decode prog_11_method_5_code 5 = .ok (.getfield 63, 3) := by decide +kernel
theorem d15_8 : decode prog_11_method_5_code 8 = .ok (.lsub, 1) := by decide +kernel
theorem d15_9 : decode prog_11_method_5_code 9 = .ok (.lstore_n 2, 1) := by decide +kernel
theorem d15_10 : decode prog_11_method_5_code 10 = .ok (.aload_n 0, 1) := by decide +kernel
theorem d15_11 : decode prog_11_method_5_code 11 = .ok (.getfield 52, 3) := by decide +kernel
theorem d15_14 : decode prog_11_method_5_code 14 = .ok (.ifnull 74, 3) := by decide +kernel
theorem d15_88 : decode prog_11_method_5_code 88 = .ok (.aload_n 0, 1) := by decide +kernel
theorem d15_89 : decode prog_11_method_5_code 89 = .ok (.aconst_null, 1) := by decide +kernel
theorem d15_90 : decode prog_11_method_5_code 90 = .ok (.putfield 52, 3) := by decide +kernel
theorem d15_93 : decode prog_11_method_5_code 93 = .ok (.return_, 1) := by decide +kernel
theorem ef_15n (m : MethodId) (x0 : Addr) (x1 : Addr) : entryFrame m #[(.ref x0), (.ref x1)] 4 = mkF m 0 #[.val (.ref x0), .val (.ref x1), .unset, .unset] [] := by first | (simp [entryFrame, mkF, argsToLocals, Value.category]; done) | rfl
def Q15n (Z : State) (a1 : Addr) (a2 : Addr) (ka : Addr) (h0 : Heap) (n0 : Nat) (v : Option Value) (h : Heap) (L : List Loc) : Prop := v = none ∧ Fr n0 L ∧ Keep h0 h [a1] ∧ Fld Z h a1 own_AC "kept" "[Lcom/example/valbonne/valbonne/codec/AttributeCodings$Coding;" (.ref ka) ∧ Fld Z h a1 own_AC "oldest" "I" (.int (0 : Int32)) ∧ Fld Z h a1 own_AC "reading" "Lcom/example/valbonne/valbonne/codec/AttributeCodings$Coding;" .null ∧ Fld Z h a1 own_AC "readFrom" "J" (.long (0 : Int64))
abbrev R15n : Room := { frames := 1, cells := 0, slots := 0, locals := 12 }
set_option maxRecDepth 65536 in
set_option maxHeartbeats 40000000 in
theorem rm15n (l : Launch) (Z : State) (a0 : Array Value) (hw : ∀ d ∈ tables_1, d.before a0 Z = true) (ws : List Jvm.Cond) (a1 : Addr) (a2 : Addr) (ka : Addr) (h0 : Heap) (n0 : Nat) (Z0 : n0 ≤ h0.size) (E_a1 : Exa Z h0 a1 own_AC) (g_a1 : n0 ≤ a1) (E_a2 : Exa Z h0 a2 own_SI) (F_pos_a2 : Fld Z h0 a2 own_SI "pos" "I" (.int (0 : Int32))) (F_offset_a2 : Fld Z h0 a2 own_SI "offset" "J" (.long (0 : Int64))) (F_kept_a1 : Fld Z h0 a1 own_AC "kept" "[Lcom/example/valbonne/valbonne/codec/AttributeCodings$Coding;" (.ref ka)) (F_oldest_a1 : Fld Z h0 a1 own_AC "oldest" "I" (.int (0 : Int32))) (F_reading_a1 : Fld Z h0 a1 own_AC "reading" "Lcom/example/valbonne/valbonne/codec/AttributeCodings$Coding;" .null) (F_readFrom_a1 : Fld Z h0 a1 own_AC "readFrom" "J" (.long (0 : Int64))) :
    MetFree l (⟨own_AC, "end", "(Lcom/example/valbonne/valbonne/codec/StreamInput;)V"⟩ : MethodName) (head1 (Jvm.Cond.code (⟨own_AC, "end", "(Lcom/example/valbonne/valbonne/codec/StreamInput;)V"⟩ : MethodName) prog_11_method_5_code 4 none :: ws) R15n) (fun a U => a = #[(.ref a1), (.ref a2)] ∧ Z.Warmed39 U.vm ∧ U.heap = h0) (fun _ _ _ _ _ => True) (fun _ U o U' => ∃ v L, o = .returned v ∧ Q15n Z a1 a2 ka h0 n0 v U'.heap L ∧ FrameEnd U o U' L R15n.cells R15n.slots) := by
  refine MetFree.of_bodySF (plainFor_of_name pn_4) hisR ?_
  intro p e s m args below meth c s₁ Bd hml0 hP hK
  obtain ⟨rfl, hZ, hh⟩ := hP
  have hx := Bd.exec
  have hby := Bd.bytes
  have hlk : meth.locks = false := BodyLoose.notSynchronized Bd
  have hml : c.maxLocals = 4 := hml0
  have hown : s.vm.findClass own_AC = some m.cls := findClass_of_methodNamed Bd.named
  have hnm := (name_of_methodNamed Bd.named Bd.method).1
  have X0 : Stand p l e R15n s m #[(.ref a1), (.ref a2)] below meth c s₁ [] 0 0 := Stand.of_body Bd
  have e0 : s₁.heap = h0 := by rw [← hh, Bd.state]; rfl
  have N0 := Fr.nil n0
  show own_Goes p e below s (Q15n Z a1 a2 ka h0 n0) R15n.cells R15n.slots s₁ (entryFrame m #[(.ref a1), (.ref a2)] 4)
  rw [ef_15n m a1 a2]
  refine own_step (f' := (mkF m 1 #[.val (.ref a1), .val (.ref a2), .unset, .unset] [(.ref a2)])) (fun _ k => XS.aloadN X0.here hx rfl (hb hby d15_0) rfl rfl k) ?_
  have Zq1 : n0 ≤ h0.size := Z0
  obtain ⟨cq1, kq1, q1a, q1b, q1c⟩ := isOf hZ e0 E_a2
  obtain ⟨_, _, ⟨T1, L1, k1, n1⟩, -, X1, ⟨Lc1, hQ1, l1, y1, z1⟩, st1⟩ := X0.virtualBack hx (y := (⟨own_SI, "position", "()J"⟩ : MethodName)) (z := (⟨own_SI, "position", "()J"⟩ : MethodName)) hown (mvT hZ (own_w115 hw)) (mvT hZ (own_w116 hw)) (notFace_of_selects (args := #[]) (mvT hZ (own_w118 hw))) (mvT hZ (own_w118 hw)) (mvT hZ (own_w117 hw)) (by decide) (backOf (W := 0) (rm16 l Z a0 hw [] a2 h0 n0 Zq1 F_pos_a2 F_offset_a2) hZ (own_w119 hw) (own_w71 hw) (by decide) (by decide)) q1a q1c (g := (mkF m 1 #[.val (.ref a1), .val (.ref a2), .unset, .unset] [(.ref a2)])) rfl (by rw [hml]; rfl) (Steps.refl _) (argsL := []) (rest := []) (lenOf pd_10 rfl) rfl (by show 2 * 0 + _ ≤ _; exact Nat.le_of_eq rfl) (hb hby d15_1) (fun _ _ => ⟨rfl, e0, (by decide : 0 + 0 ≤ _), (by decide : 0 + 0 ≤ _)⟩)
  dsimp only [Pt.U, Pt.locs, Pt.cells, Pt.slots] at X1 l1 y1 z1 st1 hQ1
  subst l1 y1 z1
  obtain ⟨rfl, rfl, e1⟩ := hQ1
  try rw [List.append_nil] at X1
  refine own_jump (f' := (mkF m 4 #[.val (.ref a1), .val (.ref a2), .unset, .unset] [(.long (0 : Int64))])) st1 ?_
  refine own_step (f' := (mkF m 5 #[.val (.ref a1), .val (.ref a2), .unset, .unset] [(.ref a1), (.long (0 : Int64))])) (fun _ k => XS.aloadN X1.here hx rfl (hb hby d15_4) rfl rfl k) ?_
  obtain ⟨T2, X2, e2, st2⟩ := getF X1 hx hZ hown (host := "") (Or.inl (own_w124 hw)) Via.refl e1 F_readFrom_a1 (g := (mkF m 5 #[.val (.ref a1), .val (.ref a2), .unset, .unset] [(.ref a1), (.long (0 : Int64))])) rfl rfl (hb hby d15_5)
  refine own_step (f' := (mkF m 8 #[.val (.ref a1), .val (.ref a2), .unset, .unset] [(.long (0 : Int64)), (.long (0 : Int64))])) st2 ?_
  refine own_step (f' := (mkF m 9 #[.val (.ref a1), .val (.ref a2), .unset, .unset] [(.long (0 : Int64))])) (fun _ k => XS.lsub X2.here hx rfl (hb hby d15_8) rfl k) ?_
  refine own_step (f' := (mkF m 10 #[.val (.ref a1), .val (.ref a2), .val (.long (0 : Int64)), .second] [])) (fun _ k => XS.lstoreN X2.here hx rfl (hb hby d15_9) rfl (l' := #[.val (.ref a1), .val (.ref a2), .val (.long (0 : Int64)), .second]) rfl k) ?_
  refine own_step (f' := (mkF m 11 #[.val (.ref a1), .val (.ref a2), .val (.long (0 : Int64)), .second] [(.ref a1)])) (fun _ k => XS.aloadN X2.here hx rfl (hb hby d15_10) rfl rfl k) ?_
  obtain ⟨T3, X3, e3, st3⟩ := getF X2 hx hZ hown (host := "") (Or.inl (own_w126 hw)) Via.refl e2 F_reading_a1 (g := (mkF m 11 #[.val (.ref a1), .val (.ref a2), .val (.long (0 : Int64)), .second] [(.ref a1)])) rfl rfl (hb hby d15_11)
  refine own_step (f' := (mkF m 14 #[.val (.ref a1), .val (.ref a2), .val (.long (0 : Int64)), .second] [.null])) st3 ?_
  refine own_step (f' := (mkF m 88 #[.val (.ref a1), .val (.ref a2), .val (.long (0 : Int64)), .second] [])) (fun _ k => XS.ifnullYes X3.here hx rfl (pc0 := 14) (pc' := 88) rfl (hb hby d15_14) rfl (by decide) (by decide) k) ?_
  refine own_step (f' := (mkF m 89 #[.val (.ref a1), .val (.ref a2), .val (.long (0 : Int64)), .second] [(.ref a1)])) (fun _ k => XS.aloadN X3.here hx rfl (hb hby d15_88) rfl rfl k) ?_
  refine own_step (f' := (mkF m 90 #[.val (.ref a1), .val (.ref a2), .val (.long (0 : Int64)), .second] [.null, (.ref a1)])) (fun _ k => XS.aconstNull X3.here hx rfl (hb hby d15_89) k) ?_
  obtain ⟨T4, h4, X4, e4, W4, st4⟩ := putF X3 hx hZ hown (host := "") (Or.inl (own_w126 hw)) Via.refl e3 F_reading_a1 E_a1 (Or.inl (own_w127 hw)) (own_w59 hw) own_fd_5 rfl rfl (g := (mkF m 90 #[.val (.ref a1), .val (.ref a2), .val (.long (0 : Int64)), .second] [.null, (.ref a1)])) rfl rfl (hb hby d15_90)
  obtain ⟨Lo4, X4, N4⟩ : ∃ K, Stand p l e R15n s m #[(.ref a1), (.ref a2)] below meth c T4 K 0 0 ∧ Fr n0 K := ⟨_, X4, (Fr.snoc X4 N0 g_a1)⟩
  refine own_step (f' := (mkF m 93 #[.val (.ref a1), .val (.ref a2), .val (.long (0 : Int64)), .second] [])) st4 ?_
  refine own_out (v := none) X4 hlk (fun _ => rfl) (fun fs hr => X4.returnOut hx Bd.returns (hb hby d15_93) hr) (by decide) (by decide) ?_
  rw [e4]
  exact ⟨rfl, N4, ((Keep.refl h0 [a1]).wr W4 (Or.inl (List.mem_of_getElem? (i := 0) rfl))), (F_kept_a1.other W4 (Or.inr (Jvm.RoadKit.slot_ne (Or.inr (own_w68 hw)) (Or.inl (own_w127 hw)) (by decide) own_fd_4 own_fd_5))), (F_oldest_a1.other W4 (Or.inr (Jvm.RoadKit.slot_ne (Or.inl (own_w146 hw)) (Or.inl (own_w127 hw)) (by decide) own_fd_2 own_fd_5))), (F_reading_a1.same W4), (F_readFrom_a1.other W4 (Or.inr (Jvm.RoadKit.slot_ne (Or.inl (own_w125 hw)) (Or.inl (own_w127 hw)) (by decide) own_fd_6 own_fd_5)))⟩
theorem own_w186 {a0 Z} (hw : own_HW a0 Z) : (Cond.constantLong "com/example/valbonne/valbonne/codec/AttributeCodings" (77 : Nat) (64 : Int64)).before a0 Z = true := own_at hw 186 rfl
theorem own_w187 {a0 Z} (hw : own_HW a0 Z) : (Cond.fieldRef "com/example/valbonne/valbonne/codec/AttributeCodings" (34 : Nat) "com/example/valbonne/valbonne/codec/AttributeCodings$Coding" "length" "I").before a0 Z = true := own_at hw 187 rfl
theorem own_w189 {a0 Z} (hw : own_HW a0 Z) : (Cond.fieldRef "com/example/valbonne/valbonne/codec/AttributeCodings" (79 : Nat) "com/example/valbonne/valbonne/codec/AttributeCodings$Coding" "bytes" "[B").before a0 Z = true := own_at hw 189 rfl
theorem own_w190 {a0 Z} (hw : own_HW a0 Z) : (Cond.methodLink "com/example/valbonne/valbonne/codec/AttributeCodings" (83 : Nat) ⟨"com/example/valbonne/valbonne/codec/StreamInput", "copyRead", "(J[BI)V"⟩).before a0 Z = true := own_at hw 190 rfl
theorem own_w194 {a0 Z} (hw : own_HW a0 Z) : (Cond.code ⟨"com/example/valbonne/valbonne/codec/StreamInput", "copyRead", "(J[BI)V"⟩ prog_83_method_15_code (5 : Nat) none).before a0 Z = true := own_at hw 194 rfl
theorem pd_12 : parseMethodDescriptor "(J[BI)V" = some ⟨[.long, (.array .byte), .int], none⟩ := by decide +kernel
theorem own_w193 {a0 Z} (hw : own_HW a0 Z) : (Cond.selects "com/example/valbonne/valbonne/codec/StreamInput" ⟨"com/example/valbonne/valbonne/codec/StreamInput", "copyRead", "(J[BI)V"⟩ ⟨"com/example/valbonne/valbonne/codec/StreamInput", "copyRead", "(J[BI)V"⟩).before a0 Z = true := own_at hw 193 rfl
theorem own_w191 {a0 Z} (hw : own_HW a0 Z) : (Cond.declares ⟨"com/example/valbonne/valbonne/codec/StreamInput", "copyRead", "(J[BI)V"⟩).before a0 Z = true := own_at hw 191 rfl
theorem own_w192 {a0 Z} (hw : own_HW a0 Z) : (Cond.instanceMethod ⟨"com/example/valbonne/valbonne/codec/StreamInput", "copyRead", "(J[BI)V"⟩).before a0 Z = true := own_at hw 192 rfl
theorem own_w199 {a0 Z} (hw : own_HW a0 Z) : (Cond.fieldRef "com/example/valbonne/valbonne/codec/AttributeCodings" (42 : Nat) "com/example/valbonne/valbonne/codec/AttributeCodings$Coding" "endPage" "I").before a0 Z = true := own_at hw 199 rfl
theorem own_w201 {a0 Z} (hw : own_HW a0 Z) : (Cond.fieldRef "com/example/valbonne/valbonne/codec/AttributeCodings" (87 : Nat) "com/example/valbonne/valbonne/codec/AttributeCodings$Coding" "known" "Z").before a0 Z = true := own_at hw 201 rfl
theorem d15_17 : decode prog_11_method_5_code 17 = .ok (.lload_n 2, 1) := by decide +kernel
theorem d15_18 : decode prog_11_method_5_code 18 = .ok (.ldc2_w 77, 3) := by decide +kernel
theorem d15_21 : decode prog_11_method_5_code 21 = .ok (.lcmp, 1) := by decide +kernel
theorem d15_22 : decode prog_11_method_5_code 22 = .ok (.ifCond .gt 66, 3) := by decide +kernel
theorem d15_25 : decode prog_11_method_5_code 25 = .ok (.aload_n 0, 1) := by decide +kernel
theorem d15_26 : decode prog_11_method_5_code 26 = .ok (.getfield 52, 3) := by decide +kernel
theorem d15_29 : decode prog_11_method_5_code 29 = .ok (.lload_n 2, 1) := by decide +kernel
theorem d15_30 : decode prog_11_method_5_code 30 = .ok (.l2i, 1) := by decide +kernel
theorem d15_31 : decode prog_11_method_5_code 31 = .ok (.putfield 34, 3) := by decide +kernel
theorem d15_34 : decode prog_11_method_5_code 34 = .ok (.aload_n 1, 1) := by decide +kernel
theorem d15_35 : decode prog_11_method_5_code 35 = .ok (.aload_n 0, 1) := by decide +kernel
theorem d15_36 : decode prog_11_method_5_code 36 = .ok (.getfield 63, 3) := by decide +kernel
theorem d15_39 : decode prog_11_method_5_code 39 = .ok (.aload_n 0, 1) := by decide +kernel
theorem d15_40 : decode prog_11_method_5_code 40 = .ok (.getfield 52, 3) := by decide +kernel
theorem d15_43 : decode prog_11_method_5_code 43 = .ok (.getfield 79, 3) := by decide +kernel
theorem d15_46 : decode prog_11_method_5_code 46 = .ok (.aload_n 0, 1) := by decide +kernel
theorem d15_47 : decode prog_11_method_5_code 47 = .ok (.getfield 52, 3) := by decide +kernel
theorem d15_50 : decode prog_11_method_5_code 50 = .ok (.getfield 34, 3) := by decide +kernel
theorem d15_53 : decode prog_11_method_5_code 53 = .ok (.invokevirtual 83, 3) := by decide +kernel
theorem d15_56 : decode prog_11_method_5_code 56 = .ok (.aload_n 0, 1) := by decide +kernel
theorem d15_57 : decode prog_11_method_5_code 57 = .ok (.getfield 52, 3) := by decide +kernel
theorem d15_60 : decode prog_11_method_5_code 60 = .ok (.aload_n 1, 1) := by decide +kernel
theorem d15_61 : decode prog_11_method_5_code 61 = .ok (.invokevirtual 25, 3) := by decide +kernel
theorem d15_64 : decode prog_11_method_5_code 64 = .ok (.putfield 42, 3) := by decide +kernel
theorem d15_67 : decode prog_11_method_5_code 67 = .ok (.aload_n 0, 1) := by decide +kernel
theorem d15_68 : decode prog_11_method_5_code 68 = .ok (.getfield 52, 3) := by decide +kernel
theorem d15_71 : decode prog_11_method_5_code 71 = .ok (.iconst 1, 1) := by decide +kernel
theorem d15_72 : decode prog_11_method_5_code 72 = .ok (.putfield 87, 3) := by decide +kernel
theorem d15_75 : decode prog_11_method_5_code 75 = .ok (.aload_n 0, 1) := by decide +kernel
theorem d15_76 : decode prog_11_method_5_code 76 = .ok (.aload_n 0, 1) := by decide +kernel
theorem d15_77 : decode prog_11_method_5_code 77 = .ok (.getfield 48, 3) := by decide +kernel
theorem d15_80 : decode prog_11_method_5_code 80 = .ok (.iconst 1, 1) := by decide +kernel
theorem d15_81 : decode prog_11_method_5_code 81 = .ok (.iadd, 1) := by decide +kernel
theorem d15_82 : decode prog_11_method_5_code 82 = .ok (.bipush 16, 2) := by decide +kernel
theorem d15_84 : decode prog_11_method_5_code 84 = .ok (.irem, 1) := by decide +kernel
theorem d15_85 : decode prog_11_method_5_code 85 = .ok (.putfield 48, 3) := by decide +kernel
theorem ef_15s (m : MethodId) (x0 : Addr) (x1 : Addr) : entryFrame m #[(.ref x0), (.ref x1)] 4 = mkF m 0 #[.val (.ref x0), .val (.ref x1), .unset, .unset] [] := by first | (simp [entryFrame, mkF, argsToLocals, Value.category]; done) | rfl
def Q15s (Z : State) (a1 : Addr) (a2 : Addr) (ka : Addr) (cg : Addr) (bb : Addr) (u2 : Value) (u3 : Value) (sz : Int32) (zb : Addr) (kz : ClassId) (kb : ClassId) (h0 : Heap) (n0 : Nat) (v : Option Value) (h : Heap) (L : List Loc) : Prop := v = none ∧ Fr n0 L ∧ Keep h0 h [a1, cg, bb] ∧ Fld Z h a1 own_AC "kept" "[Lcom/example/valbonne/valbonne/codec/AttributeCodings$Coding;" (.ref ka) ∧ Fld Z h a1 own_AC "oldest" "I" (.int (1 : Int32)) ∧ Fld Z h a1 own_AC "reading" "Lcom/example/valbonne/valbonne/codec/AttributeCodings$Coding;" .null ∧ Fld Z h a1 own_AC "readFrom" "J" (.long (0 : Int64)) ∧ Fld Z h cg own_CO "declared" "Lcom/example/valbonne/valbonne/codec/DeclaredAttributes;" .null ∧ Fld Z h cg own_CO "loose" "Z" (.int (1 : Int32)) ∧ Fld Z h cg own_CO "page" "I" (.int (0 : Int32)) ∧ Fld Z h cg own_CO "endPage" "I" (.int (0 : Int32)) ∧ Fld Z h cg own_CO "bytes" "[B" (.ref bb) ∧ Fld Z h cg own_CO "length" "I" (.int (0 : Int32)) ∧ Fld Z h cg own_CO "names" "[Lcom/example/valbonne/valbonne/codec/Name;" u2 ∧ Fld Z h cg own_CO "values" "[Ljava/lang/String;" u3 ∧ Fld Z h cg own_CO "size" "I" (.int sz) ∧ Fld Z h cg own_CO "known" "Z" (.int (1 : Int32))
abbrev R15s : Room := { frames := 2, cells := 0, slots := 0, locals := 56 }
set_option maxRecDepth 65536 in
set_option maxHeartbeats 40000000 in
theorem rm15s (l : Launch) (Z : State) (a0 : Array Value) (hw : ∀ d ∈ tables_1, d.before a0 Z = true) (ws : List Jvm.Cond) (a1 : Addr) (a2 : Addr) (ka : Addr) (cg : Addr) (bb : Addr) (u2 : Value) (u3 : Value) (sz : Int32) (zb : Addr) (kz : ClassId) (kb : ClassId) (h0 : Heap) (n0 : Nat) (Z0 : n0 ≤ h0.size) (E_a1 : Exa Z h0 a1 own_AC) (g_a1 : n0 ≤ a1) (E_a2 : Exa Z h0 a2 own_SI) (F_pos_a2 : Fld Z h0 a2 own_SI "pos" "I" (.int (0 : Int32))) (F_offset_a2 : Fld Z h0 a2 own_SI "offset" "J" (.long (0 : Int64))) (F_kept_a1 : Fld Z h0 a1 own_AC "kept" "[Lcom/example/valbonne/valbonne/codec/AttributeCodings$Coding;" (.ref ka)) (F_oldest_a1 : Fld Z h0 a1 own_AC "oldest" "I" (.int (0 : Int32))) (F_reading_a1 : Fld Z h0 a1 own_AC "reading" "Lcom/example/valbonne/valbonne/codec/AttributeCodings$Coding;" (.ref cg)) (F_readFrom_a1 : Fld Z h0 a1 own_AC "readFrom" "J" (.long (0 : Int64))) (E_cg : Exa Z h0 cg own_CO) (g_cg : n0 ≤ cg) (g_bb : n0 ≤ bb) (ne_a1_cg : a1 ≠ cg) (ne_a1_bb : a1 ≠ bb) (ne_a1_a2 : a1 ≠ a2) (ne_cg_a2 : cg ≠ a2) (ne_bb_a2 : bb ≠ a2) (ne_cg_bb : cg ≠ bb) (ne_zb_bb : zb ≠ bb) (ne_zb_cg : zb ≠ cg) (F_declared_cg : Fld Z h0 cg own_CO "declared" "Lcom/example/valbonne/valbonne/codec/DeclaredAttributes;" .null) (F_loose_cg : Fld Z h0 cg own_CO "loose" "Z" (.int (1 : Int32))) (F_page_cg : Fld Z h0 cg own_CO "page" "I" (.int (0 : Int32))) (F_endPage_cg : Fld Z h0 cg own_CO "endPage" "I" (.int (0 : Int32))) (F_bytes_cg : Fld Z h0 cg own_CO "bytes" "[B" (.ref bb)) (F_length_cg : Fld Z h0 cg own_CO "length" "I" (.int (0 : Int32))) (F_names_cg : Fld Z h0 cg own_CO "names" "[Lcom/example/valbonne/valbonne/codec/Name;" u2) (F_values_cg : Fld Z h0 cg own_CO "values" "[Ljava/lang/String;" u3) (F_size_cg : Fld Z h0 cg own_CO "size" "I" (.int sz)) (F_known_cg : Fld Z h0 cg own_CO "known" "Z" (.int (0 : Int32))) (F_bytes_a2 : Fld Z h0 a2 own_SI "bytes" "[B" (.ref zb)) (F_attributePage_a2 : Fld Z h0 a2 own_SI "attributePage" "I" (.int (0 : Int32))) (V_zb : Arv Z h0 zb kz .byte (0 : Int32) [] (.int (0 : Int32))) (V_bb : Arv Z h0 bb kb .byte (64 : Int32) [] (.int (0 : Int32))) :
    MetFree l (⟨own_AC, "end", "(Lcom/example/valbonne/valbonne/codec/StreamInput;)V"⟩ : MethodName) (head1 (Jvm.Cond.code (⟨own_AC, "end", "(Lcom/example/valbonne/valbonne/codec/StreamInput;)V"⟩ : MethodName) prog_11_method_5_code 4 none :: ws) R15s) (fun a U => a = #[(.ref a1), (.ref a2)] ∧ Z.Warmed39 U.vm ∧ U.heap = h0) (fun _ _ _ _ _ => True) (fun _ U o U' => ∃ v L, o = .returned v ∧ Q15s Z a1 a2 ka cg bb u2 u3 sz zb kz kb h0 n0 v U'.heap L ∧ FrameEnd U o U' L R15s.cells R15s.slots) := by
  refine MetFree.of_bodySF (plainFor_of_name pn_4) hisR ?_
  intro p e s m args below meth c s₁ Bd hml0 hP hK
  obtain ⟨rfl, hZ, hh⟩ := hP
  have hx := Bd.exec
  have hby := Bd.bytes
  have hlk : meth.locks = false := BodyLoose.notSynchronized Bd
  have hml : c.maxLocals = 4 := hml0
  have hown : s.vm.findClass own_AC = some m.cls := findClass_of_methodNamed Bd.named
  have hnm := (name_of_methodNamed Bd.named Bd.method).1
  have X0 : Stand p l e R15s s m #[(.ref a1), (.ref a2)] below meth c s₁ [] 0 0 := Stand.of_body Bd
  have e0 : s₁.heap = h0 := by rw [← hh, Bd.state]; rfl
  have N0 := Fr.nil n0
  show own_Goes p e below s (Q15s Z a1 a2 ka cg bb u2 u3 sz zb kz kb h0 n0) R15s.cells R15s.slots s₁ (entryFrame m #[(.ref a1), (.ref a2)] 4)
  rw [ef_15s m a1 a2]
  refine own_step (f' := (mkF m 1 #[.val (.ref a1), .val (.ref a2), .unset, .unset] [(.ref a2)])) (fun _ k => XS.aloadN X0.here hx rfl (hb hby d15_0) rfl rfl k) ?_
  have Zq1 : n0 ≤ h0.size := Z0
  obtain ⟨cq1, kq1, q1a, q1b, q1c⟩ := isOf hZ e0 E_a2
  obtain ⟨_, _, ⟨T1, L1, k1, n1⟩, -, X1, ⟨Lc1, hQ1, l1, y1, z1⟩, st1⟩ := X0.virtualBack hx (y := (⟨own_SI, "position", "()J"⟩ : MethodName)) (z := (⟨own_SI, "position", "()J"⟩ : MethodName)) hown (mvT hZ (own_w115 hw)) (mvT hZ (own_w116 hw)) (notFace_of_selects (args := #[]) (mvT hZ (own_w118 hw))) (mvT hZ (own_w118 hw)) (mvT hZ (own_w117 hw)) (by decide) (backOf (W := 0) (rm16 l Z a0 hw [] a2 h0 n0 Zq1 F_pos_a2 F_offset_a2) hZ (own_w119 hw) (own_w71 hw) (by decide) (by decide)) q1a q1c (g := (mkF m 1 #[.val (.ref a1), .val (.ref a2), .unset, .unset] [(.ref a2)])) rfl (by rw [hml]; rfl) (Steps.refl _) (argsL := []) (rest := []) (lenOf pd_10 rfl) rfl (by show 2 * 0 + _ ≤ _; exact Nat.le_of_eq rfl) (hb hby d15_1) (fun _ _ => ⟨rfl, e0, (by decide : 0 + 0 ≤ _), (by decide : 0 + 0 ≤ _)⟩)
  dsimp only [Pt.U, Pt.locs, Pt.cells, Pt.slots] at X1 l1 y1 z1 st1 hQ1
  subst l1 y1 z1
  obtain ⟨rfl, rfl, e1⟩ := hQ1
  try rw [List.append_nil] at X1
  refine own_jump (f' := (mkF m 4 #[.val (.ref a1), .val (.ref a2), .unset, .unset] [(.long (0 : Int64))])) st1 ?_
  refine own_step (f' := (mkF m 5 #[.val (.ref a1), .val (.ref a2), .unset, .unset] [(.ref a1), (.long (0 : Int64))])) (fun _ k => XS.aloadN X1.here hx rfl (hb hby d15_4) rfl rfl k) ?_
  obtain ⟨T2, X2, e2, st2⟩ := getF X1 hx hZ hown (host := "") (Or.inl (own_w124 hw)) Via.refl e1 F_readFrom_a1 (g := (mkF m 5 #[.val (.ref a1), .val (.ref a2), .unset, .unset] [(.ref a1), (.long (0 : Int64))])) rfl rfl (hb hby d15_5)
  refine own_step (f' := (mkF m 8 #[.val (.ref a1), .val (.ref a2), .unset, .unset] [(.long (0 : Int64)), (.long (0 : Int64))])) st2 ?_
  refine own_step (f' := (mkF m 9 #[.val (.ref a1), .val (.ref a2), .unset, .unset] [(.long (0 : Int64))])) (fun _ k => XS.lsub X2.here hx rfl (hb hby d15_8) rfl k) ?_
  refine own_step (f' := (mkF m 10 #[.val (.ref a1), .val (.ref a2), .val (.long (0 : Int64)), .second] [])) (fun _ k => XS.lstoreN X2.here hx rfl (hb hby d15_9) rfl (l' := #[.val (.ref a1), .val (.ref a2), .val (.long (0 : Int64)), .second]) rfl k) ?_
  refine own_step (f' := (mkF m 11 #[.val (.ref a1), .val (.ref a2), .val (.long (0 : Int64)), .second] [(.ref a1)])) (fun _ k => XS.aloadN X2.here hx rfl (hb hby d15_10) rfl rfl k) ?_
  obtain ⟨T3, X3, e3, st3⟩ := getF X2 hx hZ hown (host := "") (Or.inl (own_w126 hw)) Via.refl e2 F_reading_a1 (g := (mkF m 11 #[.val (.ref a1), .val (.ref a2), .val (.long (0 : Int64)), .second] [(.ref a1)])) rfl rfl (hb hby d15_11)
  refine own_step (f' := (mkF m 14 #[.val (.ref a1), .val (.ref a2), .val (.long (0 : Int64)), .second] [(.ref cg)])) st3 ?_
  refine own_step (f' := (mkF m 17 #[.val (.ref a1), .val (.ref a2), .val (.long (0 : Int64)), .second] [])) (fun _ k => XS.ifnullNo X3.here hx rfl (hb hby d15_14) rfl k) ?_
  refine own_step (f' := (mkF m 18 #[.val (.ref a1), .val (.ref a2), .val (.long (0 : Int64)), .second] [(.long (0 : Int64))])) (fun _ k => XS.lloadN X3.here hx rfl (hb hby d15_17) rfl k) ?_
  refine own_step (f' := (mkF m 21 #[.val (.ref a1), .val (.ref a2), .val (.long (0 : Int64)), .second] [(.long (64 : Int64)), (.long (0 : Int64))])) (fun _ k => X3.ldc2Long hx hown (mvT hZ (own_w186 hw)) (g := (mkF m 18 #[.val (.ref a1), .val (.ref a2), .val (.long (0 : Int64)), .second] [(.long (0 : Int64))])) rfl (hb hby d15_18) _ k) ?_
  refine own_step (f' := (mkF m 22 #[.val (.ref a1), .val (.ref a2), .val (.long (0 : Int64)), .second] [(.int (lcmpW (0 : Int64) (64 : Int64)))])) (fun _ k => XS.lcmp X3.here hx rfl (hb hby d15_21) rfl k) ?_
  refine own_step (f' := (mkF m 25 #[.val (.ref a1), .val (.ref a2), .val (.long (0 : Int64)), .second] [])) (fun _ k => XS.ifNo X3.here hx rfl (hb hby d15_22) rfl ((if0 _ _).trans (flt (fun q => (by decide : ¬ ((64 : Int64) < (0 : Int64))) ((lw_gt _ _).mp q))).2.2.1) k) ?_
  refine own_step (f' := (mkF m 26 #[.val (.ref a1), .val (.ref a2), .val (.long (0 : Int64)), .second] [(.ref a1)])) (fun _ k => XS.aloadN X3.here hx rfl (hb hby d15_25) rfl rfl k) ?_
  obtain ⟨T4, X4, e4, st4⟩ := getF X3 hx hZ hown (host := "") (Or.inl (own_w126 hw)) Via.refl e3 F_reading_a1 (g := (mkF m 26 #[.val (.ref a1), .val (.ref a2), .val (.long (0 : Int64)), .second] [(.ref a1)])) rfl rfl (hb hby d15_26)
  refine own_step (f' := (mkF m 29 #[.val (.ref a1), .val (.ref a2), .val (.long (0 : Int64)), .second] [(.ref cg)])) st4 ?_
  refine own_step (f' := (mkF m 30 #[.val (.ref a1), .val (.ref a2), .val (.long (0 : Int64)), .second] [(.long (0 : Int64)), (.ref cg)])) (fun _ k => XS.lloadN X4.here hx rfl (hb hby d15_29) rfl k) ?_
  refine own_step (f' := (mkF m 31 #[.val (.ref a1), .val (.ref a2), .val (.long (0 : Int64)), .second] [(.int (0 : Int32)), (.ref cg)])) (fun _ k => XS.l2i X4.here hx rfl (hb hby d15_30) rfl k) ?_
  obtain ⟨T5, h5, X5, e5, W5, st5⟩ := own_putR X4 hx hZ hown (own_w187 hw) e4 F_length_cg E_cg (own_w188 hw) (own_w147 hw) (v' := (.int (0 : Int32))) own_fd_2 rfl rfl (g := (mkF m 31 #[.val (.ref a1), .val (.ref a2), .val (.long (0 : Int64)), .second] [(.int (0 : Int32)), (.ref cg)])) rfl rfl (hb hby d15_31)
  obtain ⟨Lo5, X5, N5⟩ : ∃ K, Stand p l e R15s s m #[(.ref a1), (.ref a2)] below meth c T5 K 0 0 ∧ Fr n0 K := ⟨_, X5, (Fr.snoc X5 N0 g_cg)⟩
  refine own_step (f' := (mkF m 34 #[.val (.ref a1), .val (.ref a2), .val (.long (0 : Int64)), .second] [])) st5 ?_
  refine own_step (f' := (mkF m 35 #[.val (.ref a1), .val (.ref a2), .val (.long (0 : Int64)), .second] [(.ref a2)])) (fun _ k => XS.aloadN X5.here hx rfl (hb hby d15_34) rfl rfl k) ?_
  refine own_step (f' := (mkF m 36 #[.val (.ref a1), .val (.ref a2), .val (.long (0 : Int64)), .second] [(.ref a1), (.ref a2)])) (fun _ k => XS.aloadN X5.here hx rfl (hb hby d15_35) rfl rfl k) ?_
  obtain ⟨T6, X6, e6, st6⟩ := getF X5 hx hZ hown (host := "") (Or.inl (own_w124 hw)) Via.refl e5 (F_readFrom_a1.other W5 (Or.inl ne_a1_cg)) (g := (mkF m 36 #[.val (.ref a1), .val (.ref a2), .val (.long (0 : Int64)), .second] [(.ref a1), (.ref a2)])) rfl rfl (hb hby d15_36)
  refine own_step (f' := (mkF m 39 #[.val (.ref a1), .val (.ref a2), .val (.long (0 : Int64)), .second] [(.long (0 : Int64)), (.ref a2)])) st6 ?_
  refine own_step (f' := (mkF m 40 #[.val (.ref a1), .val (.ref a2), .val (.long (0 : Int64)), .second] [(.ref a1), (.long (0 : Int64)), (.ref a2)])) (fun _ k => XS.aloadN X6.here hx rfl (hb hby d15_39) rfl rfl k) ?_
  obtain ⟨T7, X7, e7, st7⟩ := getF X6 hx hZ hown (host := "") (Or.inl (own_w126 hw)) Via.refl e6 (F_reading_a1.other W5 (Or.inl ne_a1_cg)) (g := (mkF m 40 #[.val (.ref a1), .val (.ref a2), .val (.long (0 : Int64)), .second] [(.ref a1), (.long (0 : Int64)), (.ref a2)])) rfl rfl (hb hby d15_40)
  refine own_step (f' := (mkF m 43 #[.val (.ref a1), .val (.ref a2), .val (.long (0 : Int64)), .second] [(.ref cg), (.long (0 : Int64)), (.ref a2)])) st7 ?_
  obtain ⟨T8, X8, e8, st8⟩ := own_getR X7 hx hZ hown (own_w189 hw) e7 (F_bytes_cg.other W5 (Or.inr (Jvm.RoadKit.slot_ne (Or.inr (own_w154 hw)) (Or.inl (own_w188 hw)) (by decide) own_fd_0 own_fd_2))) (g := (mkF m 43 #[.val (.ref a1), .val (.ref a2), .val (.long (0 : Int64)), .second] [(.ref cg), (.long (0 : Int64)), (.ref a2)])) rfl rfl (hb hby d15_43)
  refine own_step (f' := (mkF m 46 #[.val (.ref a1), .val (.ref a2), .val (.long (0 : Int64)), .second] [(.ref bb), (.long (0 : Int64)), (.ref a2)])) st8 ?_
  refine own_step (f' := (mkF m 47 #[.val (.ref a1), .val (.ref a2), .val (.long (0 : Int64)), .second] [(.ref a1), (.ref bb), (.long (0 : Int64)), (.ref a2)])) (fun _ k => XS.aloadN X8.here hx rfl (hb hby d15_46) rfl rfl k) ?_
  obtain ⟨T9, X9, e9, st9⟩ := getF X8 hx hZ hown (host := "") (Or.inl (own_w126 hw)) Via.refl e8 (F_reading_a1.other W5 (Or.inl ne_a1_cg)) (g := (mkF m 47 #[.val (.ref a1), .val (.ref a2), .val (.long (0 : Int64)), .second] [(.ref a1), (.ref bb), (.long (0 : Int64)), (.ref a2)])) rfl rfl (hb hby d15_47)
  refine own_step (f' := (mkF m 50 #[.val (.ref a1), .val (.ref a2), .val (.long (0 : Int64)), .second] [(.ref cg), (.ref bb), (.long (0 : Int64)), (.ref a2)])) st9 ?_
  obtain ⟨T10, X10, e10, st10⟩ := own_getR X9 hx hZ hown (own_w187 hw) e9 (F_length_cg.same W5) (g := (mkF m 50 #[.val (.ref a1), .val (.ref a2), .val (.long (0 : Int64)), .second] [(.ref cg), (.ref bb), (.long (0 : Int64)), (.ref a2)])) rfl rfl (hb hby d15_50)
  refine own_step (f' := (mkF m 53 #[.val (.ref a1), .val (.ref a2), .val (.long (0 : Int64)), .second] [(.int (0 : Int32)), (.ref bb), (.long (0 : Int64)), (.ref a2)])) st10 ?_
  have Zq11 : n0 ≤ h5.size := (Nat.le_trans Z0 (Nat.le_of_eq W5.size.symm))
  obtain ⟨cq11, kq11, q11a, q11b, q11c⟩ := isOf hZ e10 (E_a2.wr W5)
  obtain ⟨_, _, ⟨T11, L11, k11, n11⟩, -, X11, ⟨Lc11, hQ11, l11, y11, z11⟩, st11⟩ := X10.virtualBack hx (y := (⟨own_SI, "copyRead", "(J[BI)V"⟩ : MethodName)) (z := (⟨own_SI, "copyRead", "(J[BI)V"⟩ : MethodName)) hown (mvT hZ (own_w190 hw)) (mvT hZ (own_w191 hw)) (notFace_of_selects (args := #[]) (mvT hZ (own_w193 hw))) (mvT hZ (own_w193 hw)) (mvT hZ (own_w192 hw)) (by decide) (backOf (W := 0) (rm23 l Z a0 hw [] a2 bb zb kz kb h5 n0 Zq11 (F_bytes_a2.other W5 (Or.inl (Ne.symm ne_cg_a2))) (F_offset_a2.other W5 (Or.inl (Ne.symm ne_cg_a2))) (V_zb.other W5 ne_zb_cg) (V_bb.other W5 (Ne.symm ne_cg_bb)) g_bb) hZ (own_w194 hw) (own_w71 hw) (by decide) (by decide)) q11a q11c (g := (mkF m 53 #[.val (.ref a1), .val (.ref a2), .val (.long (0 : Int64)), .second] [(.int (0 : Int32)), (.ref bb), (.long (0 : Int64)), (.ref a2)])) rfl (by rw [hml]; rfl) (Steps.refl _) (argsL := [(.long (0 : Int64)), (.ref bb), (.int (0 : Int32))]) (rest := []) (lenOf pd_12 rfl) rfl (by show 2 * 0 + _ ≤ _; exact Nat.le_of_eq rfl) (hb hby d15_53) (fun _ _ => ⟨rfl, e10, (by decide : 0 + 0 ≤ _), (by decide : 0 + 0 ≤ _)⟩)
  dsimp only [Pt.U, Pt.locs, Pt.cells, Pt.slots] at X11 l11 y11 z11 st11 hQ11
  subst l11 y11 z11
  obtain ⟨rfl, Nq11, K11, P11_0⟩ := hQ11
  obtain ⟨Lo11, X11, N11⟩ : ∃ K, Stand p l e R15s s m #[(.ref a1), (.ref a2)] below meth c T11 K 0 0 ∧ Fr n0 K := ⟨_, X11, (Fr.app N5 Nq11)⟩
  refine own_jump (f' := (mkF m 56 #[.val (.ref a1), .val (.ref a2), .val (.long (0 : Int64)), .second] [])) st11 ?_
  refine own_step (f' := (mkF m 57 #[.val (.ref a1), .val (.ref a2), .val (.long (0 : Int64)), .second] [(.ref a1)])) (fun _ k => XS.aloadN X11.here hx rfl (hb hby d15_56) rfl rfl k) ?_
  obtain ⟨T12, X12, e12, st12⟩ := getF X11 hx hZ hown (host := "") (Or.inl (own_w126 hw)) Via.refl rfl ((F_reading_a1.other W5 (Or.inl ne_a1_cg)).keep K11 (ninS ne_a1_bb nin0)) (g := (mkF m 57 #[.val (.ref a1), .val (.ref a2), .val (.long (0 : Int64)), .second] [(.ref a1)])) rfl rfl (hb hby d15_57)
  refine own_step (f' := (mkF m 60 #[.val (.ref a1), .val (.ref a2), .val (.long (0 : Int64)), .second] [(.ref cg)])) st12 ?_
  refine own_step (f' := (mkF m 61 #[.val (.ref a1), .val (.ref a2), .val (.long (0 : Int64)), .second] [(.ref a2), (.ref cg)])) (fun _ k => XS.aloadN X12.here hx rfl (hb hby d15_60) rfl rfl k) ?_
  have Zq13 : n0 ≤ T11.heap.size := (Nat.le_trans (Nat.le_trans Z0 (Nat.le_of_eq W5.size.symm)) K11.1)
  obtain ⟨cq13, kq13, q13a, q13b, q13c⟩ := isOf hZ e12 ((E_a2.wr W5).keep K11)
  obtain ⟨_, _, ⟨T13, L13, k13, n13⟩, -, X13, ⟨Lc13, hQ13, l13, y13, z13⟩, st13⟩ := X12.virtualBack hx (y := (⟨own_SI, "attributePage", "()I"⟩ : MethodName)) (z := (⟨own_SI, "attributePage", "()I"⟩ : MethodName)) hown (mvT hZ (own_w133 hw)) (mvT hZ (own_w134 hw)) (notFace_of_selects (args := #[]) (mvT hZ (own_w136 hw))) (mvT hZ (own_w136 hw)) (mvT hZ (own_w135 hw)) (by decide) (backOf (W := 1) (rm18 l Z a0 hw [] a2 T11.heap n0 Zq13 ((F_attributePage_a2.other W5 (Or.inl (Ne.symm ne_cg_a2))).keep K11 (ninS (Ne.symm ne_bb_a2) nin0))) hZ (own_w137 hw) (own_w71 hw) (by decide) (by decide)) q13a q13c (g := (mkF m 61 #[.val (.ref a1), .val (.ref a2), .val (.long (0 : Int64)), .second] [(.ref a2), (.ref cg)])) rfl (by rw [hml]; rfl) (Steps.refl _) (argsL := []) (rest := [(.ref cg)]) (lenOf pd_8 rfl) rfl (by show 2 * 0 + _ ≤ _; exact Nat.le_of_eq rfl) (hb hby d15_61) (fun _ _ => ⟨rfl, e12, (by decide : 0 + 0 ≤ _), (by decide : 0 + 0 ≤ _)⟩)
  dsimp only [Pt.U, Pt.locs, Pt.cells, Pt.slots] at X13 l13 y13 z13 st13 hQ13
  subst l13 y13 z13
  obtain ⟨rfl, rfl, e13⟩ := hQ13
  try rw [List.append_nil] at X13
  refine own_jump (f' := (mkF m 64 #[.val (.ref a1), .val (.ref a2), .val (.long (0 : Int64)), .second] [(.int (0 : Int32)), (.ref cg)])) st13 ?_
  obtain ⟨T14, h14, X14, e14, W14, st14⟩ := own_putR X13 hx hZ hown (own_w199 hw) e13 ((F_endPage_cg.other W5 (Or.inr (Jvm.RoadKit.slot_ne (Or.inl (own_w200 hw)) (Or.inl (own_w188 hw)) (by decide) own_fd_2 own_fd_2))).keep K11 (ninS ne_cg_bb nin0)) ((E_cg.wr W5).keep K11) (own_w200 hw) (own_w147 hw) (v' := (.int (0 : Int32))) own_fd_2 rfl rfl (g := (mkF m 64 #[.val (.ref a1), .val (.ref a2), .val (.long (0 : Int64)), .second] [(.int (0 : Int32)), (.ref cg)])) rfl rfl (hb hby d15_64)
  obtain ⟨Lo14, X14, N14⟩ : ∃ K, Stand p l e R15s s m #[(.ref a1), (.ref a2)] below meth c T14 K 0 0 ∧ Fr n0 K := ⟨_, X14, (Fr.snoc X14 N11 g_cg)⟩
  refine own_step (f' := (mkF m 67 #[.val (.ref a1), .val (.ref a2), .val (.long (0 : Int64)), .second] [])) st14 ?_
  refine own_step (f' := (mkF m 68 #[.val (.ref a1), .val (.ref a2), .val (.long (0 : Int64)), .second] [(.ref a1)])) (fun _ k => XS.aloadN X14.here hx rfl (hb hby d15_67) rfl rfl k) ?_
  obtain ⟨T15, X15, e15, st15⟩ := getF X14 hx hZ hown (host := "") (Or.inl (own_w126 hw)) Via.refl e14 (((F_reading_a1.other W5 (Or.inl ne_a1_cg)).keep K11 (ninS ne_a1_bb nin0)).other W14 (Or.inl ne_a1_cg)) (g := (mkF m 68 #[.val (.ref a1), .val (.ref a2), .val (.long (0 : Int64)), .second] [(.ref a1)])) rfl rfl (hb hby d15_68)
  refine own_step (f' := (mkF m 71 #[.val (.ref a1), .val (.ref a2), .val (.long (0 : Int64)), .second] [(.ref cg)])) st15 ?_
  refine own_step (f' := (mkF m 72 #[.val (.ref a1), .val (.ref a2), .val (.long (0 : Int64)), .second] [(.int (1 : Int32)), (.ref cg)])) (fun _ k => XS.iconst X15.here hx rfl (hb hby d15_71) k) ?_
  obtain ⟨T16, h16, X16, e16, W16, st16⟩ := own_putR X15 hx hZ hown (own_w201 hw) e15 (((F_known_cg.other W5 (Or.inr (Jvm.RoadKit.slot_ne (Or.inl (own_w176 hw)) (Or.inl (own_w188 hw)) (by decide) own_fd_10 own_fd_2))).keep K11 (ninS ne_cg_bb nin0)).other W14 (Or.inr (Jvm.RoadKit.slot_ne (Or.inl (own_w176 hw)) (Or.inl (own_w200 hw)) (by decide) own_fd_10 own_fd_2))) (((E_cg.wr W5).keep K11).wr W14) (own_w176 hw) (own_w147 hw) (v' := (.int (1 : Int32))) own_fd_10 rfl rfl (g := (mkF m 72 #[.val (.ref a1), .val (.ref a2), .val (.long (0 : Int64)), .second] [(.int (1 : Int32)), (.ref cg)])) rfl rfl (hb hby d15_72)
  obtain ⟨Lo16, X16, N16⟩ : ∃ K, Stand p l e R15s s m #[(.ref a1), (.ref a2)] below meth c T16 K 0 0 ∧ Fr n0 K := ⟨_, X16, (Fr.snoc X16 N14 g_cg)⟩
  refine own_step (f' := (mkF m 75 #[.val (.ref a1), .val (.ref a2), .val (.long (0 : Int64)), .second] [])) st16 ?_
  refine own_step (f' := (mkF m 76 #[.val (.ref a1), .val (.ref a2), .val (.long (0 : Int64)), .second] [(.ref a1)])) (fun _ k => XS.aloadN X16.here hx rfl (hb hby d15_75) rfl rfl k) ?_
  refine own_step (f' := (mkF m 77 #[.val (.ref a1), .val (.ref a2), .val (.long (0 : Int64)), .second] [(.ref a1), (.ref a1)])) (fun _ k => XS.aloadN X16.here hx rfl (hb hby d15_76) rfl rfl k) ?_
  obtain ⟨T17, X17, e17, st17⟩ := getF X16 hx hZ hown (host := "") (Or.inl (own_w145 hw)) Via.refl e16 ((((F_oldest_a1.other W5 (Or.inl ne_a1_cg)).keep K11 (ninS ne_a1_bb nin0)).other W14 (Or.inl ne_a1_cg)).other W16 (Or.inl ne_a1_cg)) (g := (mkF m 77 #[.val (.ref a1), .val (.ref a2), .val (.long (0 : Int64)), .second] [(.ref a1), (.ref a1)])) rfl rfl (hb hby d15_77)
  refine own_step (f' := (mkF m 80 #[.val (.ref a1), .val (.ref a2), .val (.long (0 : Int64)), .second] [(.int (0 : Int32)), (.ref a1)])) st17 ?_
  refine own_step (f' := (mkF m 81 #[.val (.ref a1), .val (.ref a2), .val (.long (0 : Int64)), .second] [(.int (1 : Int32)), (.int (0 : Int32)), (.ref a1)])) (fun _ k => XS.iconst X17.here hx rfl (hb hby d15_80) k) ?_
  refine own_step (f' := (mkF m 82 #[.val (.ref a1), .val (.ref a2), .val (.long (0 : Int64)), .second] [(.int (1 : Int32)), (.ref a1)])) (fun _ k => XS.iadd X17.here hx rfl (hb hby d15_81) rfl k) ?_
  refine own_step (f' := (mkF m 84 #[.val (.ref a1), .val (.ref a2), .val (.long (0 : Int64)), .second] [(.int (16 : Int32)), (.int (1 : Int32)), (.ref a1)])) (fun _ k => XS.bipush X17.here hx rfl (hb hby d15_82) k) ?_
  refine own_step (f' := (mkF m 85 #[.val (.ref a1), .val (.ref a2), .val (.long (0 : Int64)), .second] [(.int (1 : Int32)), (.ref a1)])) (fun _ k => iremM X17 hx rfl (hb hby d15_84) rfl (by decide) k) ?_
  obtain ⟨T18, h18, X18, e18, W18, st18⟩ := putF X17 hx hZ hown (host := "") (Or.inl (own_w145 hw)) Via.refl e17 ((((F_oldest_a1.other W5 (Or.inl ne_a1_cg)).keep K11 (ninS ne_a1_bb nin0)).other W14 (Or.inl ne_a1_cg)).other W16 (Or.inl ne_a1_cg)) ((((E_a1.wr W5).keep K11).wr W14).wr W16) (Or.inl (own_w146 hw)) (own_w59 hw) own_fd_2 rfl rfl (g := (mkF m 85 #[.val (.ref a1), .val (.ref a2), .val (.long (0 : Int64)), .second] [(.int (1 : Int32)), (.ref a1)])) rfl rfl (hb hby d15_85)
  obtain ⟨Lo18, X18, N18⟩ : ∃ K, Stand p l e R15s s m #[(.ref a1), (.ref a2)] below meth c T18 K 0 0 ∧ Fr n0 K := ⟨_, X18, (Fr.snoc X18 N16 g_a1)⟩
  refine own_step (f' := (mkF m 88 #[.val (.ref a1), .val (.ref a2), .val (.long (0 : Int64)), .second] [])) st18 ?_
  refine own_step (f' := (mkF m 89 #[.val (.ref a1), .val (.ref a2), .val (.long (0 : Int64)), .second] [(.ref a1)])) (fun _ k => XS.aloadN X18.here hx rfl (hb hby d15_88) rfl rfl k) ?_
  refine own_step (f' := (mkF m 90 #[.val (.ref a1), .val (.ref a2), .val (.long (0 : Int64)), .second] [.null, (.ref a1)])) (fun _ k => XS.aconstNull X18.here hx rfl (hb hby d15_89) k) ?_
  obtain ⟨T19, h19, X19, e19, W19, st19⟩ := putF X18 hx hZ hown (host := "") (Or.inl (own_w126 hw)) Via.refl e18 (((((F_reading_a1.other W5 (Or.inl ne_a1_cg)).keep K11 (ninS ne_a1_bb nin0)).other W14 (Or.inl ne_a1_cg)).other W16 (Or.inl ne_a1_cg)).other W18 (Or.inr (Jvm.RoadKit.slot_ne (Or.inl (own_w127 hw)) (Or.inl (own_w146 hw)) (by decide) own_fd_5 own_fd_2))) (((((E_a1.wr W5).keep K11).wr W14).wr W16).wr W18) (Or.inl (own_w127 hw)) (own_w59 hw) own_fd_5 rfl rfl (g := (mkF m 90 #[.val (.ref a1), .val (.ref a2), .val (.long (0 : Int64)), .second] [.null, (.ref a1)])) rfl rfl (hb hby d15_90)
  obtain ⟨Lo19, X19, N19⟩ : ∃ K, Stand p l e R15s s m #[(.ref a1), (.ref a2)] below meth c T19 K 0 0 ∧ Fr n0 K := ⟨_, X19, (Fr.snoc X19 N18 g_a1)⟩
  refine own_step (f' := (mkF m 93 #[.val (.ref a1), .val (.ref a2), .val (.long (0 : Int64)), .second] [])) st19 ?_
  refine own_out (v := none) X19 hlk (fun _ => rfl) (fun fs hr => X19.returnOut hx Bd.returns (hb hby d15_93) hr) (by decide) (by decide) ?_
  rw [e19]
  exact ⟨rfl, N19, (((((((Keep.refl h0 [a1, cg, bb]).wr W5 (Or.inl (List.mem_of_getElem? (i := 1) rfl))).trans K11 (allS (Or.inl (List.mem_of_getElem? (i := 2) rfl)) all0)).wr W14 (Or.inl (List.mem_of_getElem? (i := 1) rfl))).wr W16 (Or.inl (List.mem_of_getElem? (i := 1) rfl))).wr W18 (Or.inl (List.mem_of_getElem? (i := 0) rfl))).wr W19 (Or.inl (List.mem_of_getElem? (i := 0) rfl))), ((((((F_kept_a1.other W5 (Or.inl ne_a1_cg)).keep K11 (ninS ne_a1_bb nin0)).other W14 (Or.inl ne_a1_cg)).other W16 (Or.inl ne_a1_cg)).other W18 (Or.inr (Jvm.RoadKit.slot_ne (Or.inr (own_w68 hw)) (Or.inl (own_w146 hw)) (by decide) own_fd_4 own_fd_2))).other W19 (Or.inr (Jvm.RoadKit.slot_ne (Or.inr (own_w68 hw)) (Or.inl (own_w127 hw)) (by decide) own_fd_4 own_fd_5))), ((((((F_oldest_a1.other W5 (Or.inl ne_a1_cg)).keep K11 (ninS ne_a1_bb nin0)).other W14 (Or.inl ne_a1_cg)).other W16 (Or.inl ne_a1_cg)).same W18).other W19 (Or.inr (Jvm.RoadKit.slot_ne (Or.inl (own_w146 hw)) (Or.inl (own_w127 hw)) (by decide) own_fd_2 own_fd_5))), ((((((F_reading_a1.other W5 (Or.inl ne_a1_cg)).keep K11 (ninS ne_a1_bb nin0)).other W14 (Or.inl ne_a1_cg)).other W16 (Or.inl ne_a1_cg)).other W18 (Or.inr (Jvm.RoadKit.slot_ne (Or.inl (own_w127 hw)) (Or.inl (own_w146 hw)) (by decide) own_fd_5 own_fd_2))).same W19), ((((((F_readFrom_a1.other W5 (Or.inl ne_a1_cg)).keep K11 (ninS ne_a1_bb nin0)).other W14 (Or.inl ne_a1_cg)).other W16 (Or.inl ne_a1_cg)).other W18 (Or.inr (Jvm.RoadKit.slot_ne (Or.inl (own_w125 hw)) (Or.inl (own_w146 hw)) (by decide) own_fd_6 own_fd_2))).other W19 (Or.inr (Jvm.RoadKit.slot_ne (Or.inl (own_w125 hw)) (Or.inl (own_w127 hw)) (by decide) own_fd_6 own_fd_5))), ((((((F_declared_cg.other W5 (Or.inr (Jvm.RoadKit.slot_ne (Or.inl (own_w168 hw)) (Or.inl (own_w188 hw)) (by decide) own_fd_9 own_fd_2))).keep K11 (ninS ne_cg_bb nin0)).other W14 (Or.inr (Jvm.RoadKit.slot_ne (Or.inl (own_w168 hw)) (Or.inl (own_w200 hw)) (by decide) own_fd_9 own_fd_2))).other W16 (Or.inr (Jvm.RoadKit.slot_ne (Or.inl (own_w168 hw)) (Or.inl (own_w176 hw)) (by decide) own_fd_9 own_fd_10))).other W18 (Or.inl (Ne.symm ne_a1_cg))).other W19 (Or.inl (Ne.symm ne_a1_cg))), ((((((F_loose_cg.other W5 (Or.inr (Jvm.RoadKit.slot_ne (Or.inl (own_w170 hw)) (Or.inl (own_w188 hw)) (by decide) own_fd_10 own_fd_2))).keep K11 (ninS ne_cg_bb nin0)).other W14 (Or.inr (Jvm.RoadKit.slot_ne (Or.inl (own_w170 hw)) (Or.inl (own_w200 hw)) (by decide) own_fd_10 own_fd_2))).other W16 (Or.inr (Jvm.RoadKit.slot_ne (Or.inl (own_w170 hw)) (Or.inl (own_w176 hw)) (by decide) own_fd_10 own_fd_10))).other W18 (Or.inl (Ne.symm ne_a1_cg))).other W19 (Or.inl (Ne.symm ne_a1_cg))), ((((((F_page_cg.other W5 (Or.inr (Jvm.RoadKit.slot_ne (Or.inl (own_w172 hw)) (Or.inl (own_w188 hw)) (by decide) own_fd_2 own_fd_2))).keep K11 (ninS ne_cg_bb nin0)).other W14 (Or.inr (Jvm.RoadKit.slot_ne (Or.inl (own_w172 hw)) (Or.inl (own_w200 hw)) (by decide) own_fd_2 own_fd_2))).other W16 (Or.inr (Jvm.RoadKit.slot_ne (Or.inl (own_w172 hw)) (Or.inl (own_w176 hw)) (by decide) own_fd_2 own_fd_10))).other W18 (Or.inl (Ne.symm ne_a1_cg))).other W19 (Or.inl (Ne.symm ne_a1_cg))), ((((((F_endPage_cg.other W5 (Or.inr (Jvm.RoadKit.slot_ne (Or.inl (own_w200 hw)) (Or.inl (own_w188 hw)) (by decide) own_fd_2 own_fd_2))).keep K11 (ninS ne_cg_bb nin0)).same W14).other W16 (Or.inr (Jvm.RoadKit.slot_ne (Or.inl (own_w200 hw)) (Or.inl (own_w176 hw)) (by decide) own_fd_2 own_fd_10))).other W18 (Or.inl (Ne.symm ne_a1_cg))).other W19 (Or.inl (Ne.symm ne_a1_cg))), ((((((F_bytes_cg.other W5 (Or.inr (Jvm.RoadKit.slot_ne (Or.inr (own_w154 hw)) (Or.inl (own_w188 hw)) (by decide) own_fd_0 own_fd_2))).keep K11 (ninS ne_cg_bb nin0)).other W14 (Or.inr (Jvm.RoadKit.slot_ne (Or.inr (own_w154 hw)) (Or.inl (own_w200 hw)) (by decide) own_fd_0 own_fd_2))).other W16 (Or.inr (Jvm.RoadKit.slot_ne (Or.inr (own_w154 hw)) (Or.inl (own_w176 hw)) (by decide) own_fd_0 own_fd_10))).other W18 (Or.inl (Ne.symm ne_a1_cg))).other W19 (Or.inl (Ne.symm ne_a1_cg))), ((((((F_length_cg.same W5).keep K11 (ninS ne_cg_bb nin0)).other W14 (Or.inr (Jvm.RoadKit.slot_ne (Or.inl (own_w188 hw)) (Or.inl (own_w200 hw)) (by decide) own_fd_2 own_fd_2))).other W16 (Or.inr (Jvm.RoadKit.slot_ne (Or.inl (own_w188 hw)) (Or.inl (own_w176 hw)) (by decide) own_fd_2 own_fd_10))).other W18 (Or.inl (Ne.symm ne_a1_cg))).other W19 (Or.inl (Ne.symm ne_a1_cg))), ((((((F_names_cg.other W5 (Or.inr (Jvm.RoadKit.slot_ne (Or.inr (own_w157 hw)) (Or.inl (own_w188 hw)) (by decide) own_fd_8 own_fd_2))).keep K11 (ninS ne_cg_bb nin0)).other W14 (Or.inr (Jvm.RoadKit.slot_ne (Or.inr (own_w157 hw)) (Or.inl (own_w200 hw)) (by decide) own_fd_8 own_fd_2))).other W16 (Or.inr (Jvm.RoadKit.slot_ne (Or.inr (own_w157 hw)) (Or.inl (own_w176 hw)) (by decide) own_fd_8 own_fd_10))).other W18 (Or.inl (Ne.symm ne_a1_cg))).other W19 (Or.inl (Ne.symm ne_a1_cg))), ((((((F_values_cg.other W5 (Or.inr (Jvm.RoadKit.slot_ne (Or.inr (own_w161 hw)) (Or.inl (own_w188 hw)) (by decide) own_fd_11 own_fd_2))).keep K11 (ninS ne_cg_bb nin0)).other W14 (Or.inr (Jvm.RoadKit.slot_ne (Or.inr (own_w161 hw)) (Or.inl (own_w200 hw)) (by decide) own_fd_11 own_fd_2))).other W16 (Or.inr (Jvm.RoadKit.slot_ne (Or.inr (own_w161 hw)) (Or.inl (own_w176 hw)) (by decide) own_fd_11 own_fd_10))).other W18 (Or.inl (Ne.symm ne_a1_cg))).other W19 (Or.inl (Ne.symm ne_a1_cg))), ((((((F_size_cg.other W5 (Or.inr (Jvm.RoadKit.slot_ne (Or.inl (own_w174 hw)) (Or.inl (own_w188 hw)) (by decide) own_fd_2 own_fd_2))).keep K11 (ninS ne_cg_bb nin0)).other W14 (Or.inr (Jvm.RoadKit.slot_ne (Or.inl (own_w174 hw)) (Or.inl (own_w200 hw)) (by decide) own_fd_2 own_fd_2))).other W16 (Or.inr (Jvm.RoadKit.slot_ne (Or.inl (own_w174 hw)) (Or.inl (own_w176 hw)) (by decide) own_fd_2 own_fd_10))).other W18 (Or.inl (Ne.symm ne_a1_cg))).other W19 (Or.inl (Ne.symm ne_a1_cg))), ((((((F_known_cg.other W5 (Or.inr (Jvm.RoadKit.slot_ne (Or.inl (own_w176 hw)) (Or.inl (own_w188 hw)) (by decide) own_fd_10 own_fd_2))).keep K11 (ninS ne_cg_bb nin0)).other W14 (Or.inr (Jvm.RoadKit.slot_ne (Or.inl (own_w176 hw)) (Or.inl (own_w200 hw)) (by decide) own_fd_10 own_fd_2))).same W16).other W18 (Or.inl (Ne.symm ne_a1_cg))).other W19 (Or.inl (Ne.symm ne_a1_cg)))⟩
theorem own_w98 {a0 Z} (hw : own_HW a0 Z) : (Cond.fieldLink "com/example/valbonne/valbonne/codec/StreamInput" (29 : Nat) "com/example/valbonne/valbonne/codec/StreamInput" "limit" "I").before a0 Z = true := own_at hw 98 rfl
theorem d25_0 : decode prog_83_method_13_code 0 = .ok (.aload_n 0, 1) := by decide +kernel
theorem d25_1 : decode prog_83_method_13_code 1 = .ok (.getfield 29, 3) := by decide +kernel
theorem d25_4 : decode prog_83_method_13_code 4 = .ok (.aload_n 0, 1) := by decide +kernel
theorem d25_5 : decode prog_83_method_13_code 5 = .ok (.getfield 48, 3) := by decide +kernel
theorem d25_8 : decode prog_83_method_13_code 8 = .ok (.isub, 1) := by decide +kernel
theorem d25_9 : decode prog_83_method_13_code 9 = .ok (.iload_n 2, 1) := by decide +kernel
theorem d25_10 : decode prog_83_method_13_code 10 = .ok (.if_icmp .lt 7, 3) := by decide +kernel
theorem d25_13 : decode prog_83_method_13_code 13 = .ok (.iconst 1, 1) := by decide +kernel
theorem d25_14 : decode prog_83_method_13_code 14 = .ok (.goto 4, 3) := by decide +kernel
theorem d25_18 : decode prog_83_method_13_code 18 = .ok (.istore_n 3, 1) := by decide +kernel
theorem d25_19 : decode prog_83_method_13_code 19 = .ok (.iconst 0, 1) := by decide +kernel
theorem d25_20 : decode prog_83_method_13_code 20 = .ok (.istore 4, 2) := by decide +kernel
theorem d25_22 : decode prog_83_method_13_code 22 = .ok (.iload_n 3, 1) := by decide +kernel
theorem d25_23 : decode prog_83_method_13_code 23 = .ok (.ifCond .eq 48, 3) := by decide +kernel
theorem d25_26 : decode prog_83_method_13_code 26 = .ok (.iload_n 2, 1) := by decide +kernel
theorem d25_27 : decode prog_83_method_13_code 27 = .ok (.iload 4, 2) := by decide +kernel
theorem d25_29 : decode prog_83_method_13_code 29 = .ok (.isub, 1) := by decide +kernel
theorem d25_30 : decode prog_83_method_13_code 30 = .ok (.bipush 8, 2) := by decide +kernel
theorem d25_32 : decode prog_83_method_13_code 32 = .ok (.if_icmp .lt 39, 3) := by decide +kernel
theorem d25_71 : decode prog_83_method_13_code 71 = .ok (.iload_n 3, 1) := by decide +kernel
theorem d25_72 : decode prog_83_method_13_code 72 = .ok (.ifCond .eq 40, 3) := by decide +kernel
theorem d25_75 : decode prog_83_method_13_code 75 = .ok (.iload 4, 2) := by decide +kernel
theorem d25_77 : decode prog_83_method_13_code 77 = .ok (.iload_n 2, 1) := by decide +kernel
theorem d25_78 : decode prog_83_method_13_code 78 = .ok (.if_icmp .ge 34, 3) := by decide +kernel
theorem d25_112 : decode prog_83_method_13_code 112 = .ok (.iload_n 3, 1) := by decide +kernel
theorem d25_113 : decode prog_83_method_13_code 113 = .ok (.ireturn, 1) := by decide +kernel
theorem ef_25 (m : MethodId) (x0 : Addr) (x1 : Addr) (x2 : Int32) : entryFrame m #[(.ref x0), (.ref x1), (.int x2)] 5 = mkF m 0 #[.val (.ref x0), .val (.ref x1), .val (.int x2), .unset, .unset] [] := by first | (simp [entryFrame, mkF, argsToLocals, Value.category]; done) | rfl
def Q25 (Z : State) (a1 : Addr) (a2 : Addr) (h0 : Heap) (n0 : Nat) (v : Option Value) (h : Heap) (L : List Loc) : Prop := v = some (.int (1 : Int32)) ∧ L = [] ∧ h = h0
abbrev R25 : Room := { frames := 0, cells := 0, slots := 0, locals := 0 }
set_option maxRecDepth 65536 in
set_option maxHeartbeats 40000000 in
theorem rm25 (l : Launch) (Z : State) (a0 : Array Value) (hw : ∀ d ∈ tables_1, d.before a0 Z = true) (ws : List Jvm.Cond) (a1 : Addr) (a2 : Addr) (h0 : Heap) (n0 : Nat) (Z0 : n0 ≤ h0.size) (F_limit_a1 : Fld Z h0 a1 own_SI "limit" "I" (.int (0 : Int32))) (F_pos_a1 : Fld Z h0 a1 own_SI "pos" "I" (.int (0 : Int32))) :
    MetFree l (⟨own_SI, "startsWith", "([BI)Z"⟩ : MethodName) (head1 (Jvm.Cond.code (⟨own_SI, "startsWith", "([BI)Z"⟩ : MethodName) prog_83_method_13_code 5 (some .boolean) :: ws) R25) (fun a U => a = #[(.ref a1), (.ref a2), (.int (0 : Int32))] ∧ Z.Warmed39 U.vm ∧ U.heap = h0) (fun _ _ _ _ _ => True) (fun _ U o U' => ∃ v L, o = .returned v ∧ Q25 Z a1 a2 h0 n0 v U'.heap L ∧ FrameEnd U o U' L R25.cells R25.slots) := by
  refine MetFree.of_bodySF (plainFor_of_name pn_7) hisR ?_
  intro p e s m args below meth c s₁ Bd hml0 hP hK
  obtain ⟨rfl, hZ, hh⟩ := hP
  have hx := Bd.exec
  have hby := Bd.bytes
  have hlk : meth.locks = false := BodyLoose.notSynchronized Bd
  have hml : c.maxLocals = 5 := hml0
  have hown : s.vm.findClass own_SI = some m.cls := findClass_of_methodNamed Bd.named
  have hnm := (name_of_methodNamed Bd.named Bd.method).1
  have X0 : Stand p l e R25 s m #[(.ref a1), (.ref a2), (.int (0 : Int32))] below meth c s₁ [] 0 0 := Stand.of_body Bd
  have e0 : s₁.heap = h0 := by rw [← hh, Bd.state]; rfl
  have N0 := Fr.nil n0
  show own_Goes p e below s (Q25 Z a1 a2 h0 n0) R25.cells R25.slots s₁ (entryFrame m #[(.ref a1), (.ref a2), (.int (0 : Int32))] 5)
  rw [ef_25 m a1 a2 (0 : Int32)]
  refine own_step (f' := (mkF m 1 #[.val (.ref a1), .val (.ref a2), .val (.int (0 : Int32)), .unset, .unset] [(.ref a1)])) (fun _ k => XS.aloadN X0.here hx rfl (hb hby d25_0) rfl rfl k) ?_
  obtain ⟨T1, X1, e1, st1⟩ := getF X0 hx hZ hown (host := "") (Or.inl (own_w98 hw)) Via.refl e0 F_limit_a1 (g := (mkF m 1 #[.val (.ref a1), .val (.ref a2), .val (.int (0 : Int32)), .unset, .unset] [(.ref a1)])) rfl rfl (hb hby d25_1)
  refine own_step (f' := (mkF m 4 #[.val (.ref a1), .val (.ref a2), .val (.int (0 : Int32)), .unset, .unset] [(.int (0 : Int32))])) st1 ?_
  refine own_step (f' := (mkF m 5 #[.val (.ref a1), .val (.ref a2), .val (.int (0 : Int32)), .unset, .unset] [(.ref a1), (.int (0 : Int32))])) (fun _ k => XS.aloadN X1.here hx rfl (hb hby d25_4) rfl rfl k) ?_
  obtain ⟨T2, X2, e2, st2⟩ := getF X1 hx hZ hown (host := "") (Or.inl (own_w122 hw)) Via.refl e1 F_pos_a1 (g := (mkF m 5 #[.val (.ref a1), .val (.ref a2), .val (.int (0 : Int32)), .unset, .unset] [(.ref a1), (.int (0 : Int32))])) rfl rfl (hb hby d25_5)
  refine own_step (f' := (mkF m 8 #[.val (.ref a1), .val (.ref a2), .val (.int (0 : Int32)), .unset, .unset] [(.int (0 : Int32)), (.int (0 : Int32))])) st2 ?_
  refine own_step (f' := (mkF m 9 #[.val (.ref a1), .val (.ref a2), .val (.int (0 : Int32)), .unset, .unset] [(.int (0 : Int32))])) (fun _ k => XS.isub X2.here hx rfl (hb hby d25_8) rfl k) ?_
  refine own_step (f' := (mkF m 10 #[.val (.ref a1), .val (.ref a2), .val (.int (0 : Int32)), .unset, .unset] [(.int (0 : Int32)), (.int (0 : Int32))])) (fun _ k => XS.iloadN X2.here hx rfl (hb hby d25_9) rfl k) ?_
  refine own_step (f' := (mkF m 13 #[.val (.ref a1), .val (.ref a2), .val (.int (0 : Int32)), .unset, .unset] [])) (fun _ k => XS.icmpNo X2.here hx rfl (hb hby d25_10) rfl (flt (by decide : ¬ ((0 : Int32) < (0 : Int32)))).1 k) ?_
  refine own_step (f' := (mkF m 14 #[.val (.ref a1), .val (.ref a2), .val (.int (0 : Int32)), .unset, .unset] [(.int (1 : Int32))])) (fun _ k => XS.iconst X2.here hx rfl (hb hby d25_13) k) ?_
  refine own_step (f' := (mkF m 18 #[.val (.ref a1), .val (.ref a2), .val (.int (0 : Int32)), .unset, .unset] [(.int (1 : Int32))])) (fun _ k => XS.goto X2.here hx rfl (pc0 := 14) (pc' := 18) rfl (hb hby d25_14) (by decide) (by decide) k) ?_
  refine own_step (f' := (mkF m 19 #[.val (.ref a1), .val (.ref a2), .val (.int (0 : Int32)), .val (.int (1 : Int32)), .unset] [])) (fun _ k => XS.istoreN X2.here hx rfl (hb hby d25_18) rfl (l' := #[.val (.ref a1), .val (.ref a2), .val (.int (0 : Int32)), .val (.int (1 : Int32)), .unset]) rfl k) ?_
  refine own_step (f' := (mkF m 20 #[.val (.ref a1), .val (.ref a2), .val (.int (0 : Int32)), .val (.int (1 : Int32)), .unset] [(.int (0 : Int32))])) (fun _ k => XS.iconst X2.here hx rfl (hb hby d25_19) k) ?_
  refine own_step (f' := (mkF m 22 #[.val (.ref a1), .val (.ref a2), .val (.int (0 : Int32)), .val (.int (1 : Int32)), .val (.int (0 : Int32))] [])) (fun _ k => XS.istore X2.here hx rfl (hb hby d25_20) rfl (l' := #[.val (.ref a1), .val (.ref a2), .val (.int (0 : Int32)), .val (.int (1 : Int32)), .val (.int (0 : Int32))]) rfl k) ?_
  refine own_step (f' := (mkF m 23 #[.val (.ref a1), .val (.ref a2), .val (.int (0 : Int32)), .val (.int (1 : Int32)), .val (.int (0 : Int32))] [(.int (1 : Int32))])) (fun _ k => XS.iloadN X2.here hx rfl (hb hby d25_22) rfl k) ?_
  refine own_step (f' := (mkF m 26 #[.val (.ref a1), .val (.ref a2), .val (.int (0 : Int32)), .val (.int (1 : Int32)), .val (.int (0 : Int32))] [])) (fun _ k => XS.ifNo X2.here hx rfl (hb hby d25_23) rfl ((if0 _ _).trans (feq (by decide : ¬ ((1 : Int32) = (0 : Int32)))).1) k) ?_
  refine own_step (f' := (mkF m 27 #[.val (.ref a1), .val (.ref a2), .val (.int (0 : Int32)), .val (.int (1 : Int32)), .val (.int (0 : Int32))] [(.int (0 : Int32))])) (fun _ k => XS.iloadN X2.here hx rfl (hb hby d25_26) rfl k) ?_
  refine own_step (f' := (mkF m 29 #[.val (.ref a1), .val (.ref a2), .val (.int (0 : Int32)), .val (.int (1 : Int32)), .val (.int (0 : Int32))] [(.int (0 : Int32)), (.int (0 : Int32))])) (fun _ k => XS.iload X2.here hx rfl (hb hby d25_27) rfl k) ?_
  refine own_step (f' := (mkF m 30 #[.val (.ref a1), .val (.ref a2), .val (.int (0 : Int32)), .val (.int (1 : Int32)), .val (.int (0 : Int32))] [(.int (0 : Int32))])) (fun _ k => XS.isub X2.here hx rfl (hb hby d25_29) rfl k) ?_
  refine own_step (f' := (mkF m 32 #[.val (.ref a1), .val (.ref a2), .val (.int (0 : Int32)), .val (.int (1 : Int32)), .val (.int (0 : Int32))] [(.int (8 : Int32)), (.int (0 : Int32))])) (fun _ k => XS.bipush X2.here hx rfl (hb hby d25_30) k) ?_
  refine own_step (f' := (mkF m 71 #[.val (.ref a1), .val (.ref a2), .val (.int (0 : Int32)), .val (.int (1 : Int32)), .val (.int (0 : Int32))] [])) (fun _ k => XS.icmpYes X2.here hx rfl (pc0 := 32) (pc' := 71) rfl (hb hby d25_32) rfl (tlt (by decide : ((0 : Int32) < (8 : Int32)))).1 (by decide) (by decide) k) ?_
  refine own_step (f' := (mkF m 72 #[.val (.ref a1), .val (.ref a2), .val (.int (0 : Int32)), .val (.int (1 : Int32)), .val (.int (0 : Int32))] [(.int (1 : Int32))])) (fun _ k => XS.iloadN X2.here hx rfl (hb hby d25_71) rfl k) ?_
  refine own_step (f' := (mkF m 75 #[.val (.ref a1), .val (.ref a2), .val (.int (0 : Int32)), .val (.int (1 : Int32)), .val (.int (0 : Int32))] [])) (fun _ k => XS.ifNo X2.here hx rfl (hb hby d25_72) rfl ((if0 _ _).trans (feq (by decide : ¬ ((1 : Int32) = (0 : Int32)))).1) k) ?_
  refine own_step (f' := (mkF m 77 #[.val (.ref a1), .val (.ref a2), .val (.int (0 : Int32)), .val (.int (1 : Int32)), .val (.int (0 : Int32))] [(.int (0 : Int32))])) (fun _ k => XS.iload X2.here hx rfl (hb hby d25_75) rfl k) ?_
  refine own_step (f' := (mkF m 78 #[.val (.ref a1), .val (.ref a2), .val (.int (0 : Int32)), .val (.int (1 : Int32)), .val (.int (0 : Int32))] [(.int (0 : Int32)), (.int (0 : Int32))])) (fun _ k => XS.iloadN X2.here hx rfl (hb hby d25_77) rfl k) ?_
  refine own_step (f' := (mkF m 112 #[.val (.ref a1), .val (.ref a2), .val (.int (0 : Int32)), .val (.int (1 : Int32)), .val (.int (0 : Int32))] [])) (fun _ k => XS.icmpYes X2.here hx rfl (pc0 := 78) (pc' := 112) rfl (hb hby d25_78) rfl (flt (by decide : ¬ ((0 : Int32) < (0 : Int32)))).2.1 (by decide) (by decide) k) ?_
  refine own_step (f' := (mkF m 113 #[.val (.ref a1), .val (.ref a2), .val (.int (0 : Int32)), .val (.int (1 : Int32)), .val (.int (0 : Int32))] [(.int (1 : Int32))])) (fun _ k => XS.iloadN X2.here hx rfl (hb hby d25_112) rfl k) ?_
  refine own_out (v := some (.int (1 : Int32))) X2 hlk (fun h => by rw [Bd.returns] at h; cases h) (fun fs hr => retN X2 hx (t := .boolean) Bd.returns (by simp) (hb hby d25_113) hr) (by decide) (by decide) ?_
  rw [e2]
  exact ⟨rfl, rfl, rfl⟩
theorem own_w206 {a0 Z} (hw : own_HW a0 Z) : (Cond.fieldLink "com/example/valbonne/valbonne/codec/AttributeCodings$Coding" (45 : Nat) "com/example/valbonne/valbonne/codec/AttributeCodings$Coding" "length" "I").before a0 Z = true := own_at hw 206 rfl
theorem own_w207 {a0 Z} (hw : own_HW a0 Z) : (Cond.methodLink "com/example/valbonne/valbonne/codec/AttributeCodings$Coding" (48 : Nat) ⟨"com/example/valbonne/valbonne/codec/StreamInput", "startsWith", "([BI)Z"⟩).before a0 Z = true := own_at hw 207 rfl
theorem own_w211 {a0 Z} (hw : own_HW a0 Z) : (Cond.code ⟨"com/example/valbonne/valbonne/codec/StreamInput", "startsWith", "([BI)Z"⟩ prog_83_method_13_code (5 : Nat) (some FieldType.boolean)).before a0 Z = true := own_at hw 211 rfl
theorem pd_13 : parseMethodDescriptor "([BI)Z" = some ⟨[(.array .byte), .int], some .boolean⟩ := by decide +kernel
theorem own_w210 {a0 Z} (hw : own_HW a0 Z) : (Cond.selects "com/example/valbonne/valbonne/codec/StreamInput" ⟨"com/example/valbonne/valbonne/codec/StreamInput", "startsWith", "([BI)Z"⟩ ⟨"com/example/valbonne/valbonne/codec/StreamInput", "startsWith", "([BI)Z"⟩).before a0 Z = true := own_at hw 210 rfl
theorem own_w208 {a0 Z} (hw : own_HW a0 Z) : (Cond.declares ⟨"com/example/valbonne/valbonne/codec/StreamInput", "startsWith", "([BI)Z"⟩).before a0 Z = true := own_at hw 208 rfl
theorem own_w209 {a0 Z} (hw : own_HW a0 Z) : (Cond.instanceMethod ⟨"com/example/valbonne/valbonne/codec/StreamInput", "startsWith", "([BI)Z"⟩).before a0 Z = true := own_at hw 209 rfl
theorem d24_0 : decode prog_12_method_6_code 0 = .ok (.aload_n 0, 1) := by decide +kernel
theorem d24_1 : decode prog_12_method_6_code 1 = .ok (.getfield 42, 3) := by decide +kernel
theorem d24_4 : decode prog_12_method_6_code 4 = .ok (.ifCond .eq 47, 3) := by decide +kernel
theorem d24_7 : decode prog_12_method_6_code 7 = .ok (.aload_n 0, 1) := by decide +kernel
theorem d24_8 : decode prog_12_method_6_code 8 = .ok (.getfield 31, 3) := by decide +kernel
theorem d24_11 : decode prog_12_method_6_code 11 = .ok (.aload_n 2, 1) := by decide +kernel
theorem d24_12 : decode prog_12_method_6_code 12 = .ok (.if_acmp .ne 39, 3) := by decide +kernel
theorem d24_15 : decode prog_12_method_6_code 15 = .ok (.aload_n 0, 1) := by decide +kernel
theorem d24_16 : decode prog_12_method_6_code 16 = .ok (.getfield 35, 3) := by decide +kernel
theorem d24_19 : decode prog_12_method_6_code 19 = .ok (.iload_n 3, 1) := by decide +kernel
theorem d24_20 : decode prog_12_method_6_code 20 = .ok (.if_icmp .ne 31, 3) := by decide +kernel
theorem d24_23 : decode prog_12_method_6_code 23 = .ok (.aload_n 0, 1) := by decide +kernel
theorem d24_24 : decode prog_12_method_6_code 24 = .ok (.getfield 39, 3) := by decide +kernel
theorem d24_27 : decode prog_12_method_6_code 27 = .ok (.iload 4, 2) := by decide +kernel
theorem d24_29 : decode prog_12_method_6_code 29 = .ok (.if_icmp .ne 22, 3) := by decide +kernel
theorem d24_32 : decode prog_12_method_6_code 32 = .ok (.aload_n 1, 1) := by decide +kernel
theorem d24_33 : decode prog_12_method_6_code 33 = .ok (.aload_n 0, 1) := by decide +kernel
theorem d24_34 : decode prog_12_method_6_code 34 = .ok (.getfield 9, 3) := by decide +kernel
theorem d24_37 : decode prog_12_method_6_code 37 = .ok (.aload_n 0, 1) := by decide +kernel
theorem d24_38 : decode prog_12_method_6_code 38 = .ok (.getfield 45, 3) := by decide +kernel
theorem d24_41 : decode prog_12_method_6_code 41 = .ok (.invokevirtual 48, 3) := by decide +kernel
theorem d24_44 : decode prog_12_method_6_code 44 = .ok (.ifCond .eq 7, 3) := by decide +kernel
theorem d24_47 : decode prog_12_method_6_code 47 = .ok (.iconst 1, 1) := by decide +kernel
theorem d24_48 : decode prog_12_method_6_code 48 = .ok (.goto 4, 3) := by decide +kernel
theorem d24_52 : decode prog_12_method_6_code 52 = .ok (.ireturn, 1) := by decide +kernel
theorem ef_24y (m : MethodId) (x0 : Addr) (x1 : Addr) (x3 : Int32) (x4 : Int32) : entryFrame m #[(.ref x0), (.ref x1), .null, (.int x3), (.int x4)] 5 = mkF m 0 #[.val (.ref x0), .val (.ref x1), .val .null, .val (.int x3), .val (.int x4)] [] := by first | (simp [entryFrame, mkF, argsToLocals, Value.category]; done) | rfl
def Q24y (Z : State) (a1 : Addr) (a2 : Addr) (bb : Addr) (h0 : Heap) (n0 : Nat) (v : Option Value) (h : Heap) (L : List Loc) : Prop := v = some (.int (1 : Int32)) ∧ L = [] ∧ h = h0
abbrev R24y : Room := { frames := 1, cells := 0, slots := 0, locals := 16 }
set_option maxRecDepth 65536 in
set_option maxHeartbeats 40000000 in
theorem rm24y (l : Launch) (Z : State) (a0 : Array Value) (hw : ∀ d ∈ tables_1, d.before a0 Z = true) (ws : List Jvm.Cond) (a1 : Addr) (a2 : Addr) (bb : Addr) (h0 : Heap) (n0 : Nat) (Z0 : n0 ≤ h0.size) (F_declared_a1 : Fld Z h0 a1 own_CO "declared" "Lcom/example/valbonne/valbonne/codec/DeclaredAttributes;" .null) (F_loose_a1 : Fld Z h0 a1 own_CO "loose" "Z" (.int (1 : Int32))) (F_page_a1 : Fld Z h0 a1 own_CO "page" "I" (.int (0 : Int32))) (F_bytes_a1 : Fld Z h0 a1 own_CO "bytes" "[B" (.ref bb)) (F_length_a1 : Fld Z h0 a1 own_CO "length" "I" (.int (0 : Int32))) (F_known_a1 : Fld Z h0 a1 own_CO "known" "Z" (.int (1 : Int32))) (E_a2 : Exa Z h0 a2 own_SI) (F_limit_a2 : Fld Z h0 a2 own_SI "limit" "I" (.int (0 : Int32))) (F_pos_a2 : Fld Z h0 a2 own_SI "pos" "I" (.int (0 : Int32))) :
    MetFree l (⟨own_CO, "codes", "(Lcom/example/valbonne/valbonne/codec/StreamInput;Lcom/example/valbonne/valbonne/codec/DeclaredAttributes;ZI)Z"⟩ : MethodName) (head1 (Jvm.Cond.code (⟨own_CO, "codes", "(Lcom/example/valbonne/valbonne/codec/StreamInput;Lcom/example/valbonne/valbonne/codec/DeclaredAttributes;ZI)Z"⟩ : MethodName) prog_12_method_6_code 5 (some .boolean) :: ws) R24y) (fun a U => a = #[(.ref a1), (.ref a2), .null, (.int (1 : Int32)), (.int (0 : Int32))] ∧ Z.Warmed39 U.vm ∧ U.heap = h0) (fun _ _ _ _ _ => True) (fun _ U o U' => ∃ v L, o = .returned v ∧ Q24y Z a1 a2 bb h0 n0 v U'.heap L ∧ FrameEnd U o U' L R24y.cells R24y.slots) := by
  refine MetFree.of_bodySF (plainFor_of_name pn_6) hisR ?_
  intro p e s m args below meth c s₁ Bd hml0 hP hK
  obtain ⟨rfl, hZ, hh⟩ := hP
  have hx := Bd.exec
  have hby := Bd.bytes
  have hlk : meth.locks = false := BodyLoose.notSynchronized Bd
  have hml : c.maxLocals = 5 := hml0
  have hown : s.vm.findClass own_CO = some m.cls := findClass_of_methodNamed Bd.named
  have hnm := (name_of_methodNamed Bd.named Bd.method).1
  have X0 : Stand p l e R24y s m #[(.ref a1), (.ref a2), .null, (.int (1 : Int32)), (.int (0 : Int32))] below meth c s₁ [] 0 0 := Stand.of_body Bd
  have e0 : s₁.heap = h0 := by rw [← hh, Bd.state]; rfl
  have N0 := Fr.nil n0
  show own_Goes p e below s (Q24y Z a1 a2 bb h0 n0) R24y.cells R24y.slots s₁ (entryFrame m #[(.ref a1), (.ref a2), .null, (.int (1 : Int32)), (.int (0 : Int32))] 5)
  rw [ef_24y m a1 a2 (1 : Int32) (0 : Int32)]
  refine own_step (f' := (mkF m 1 #[.val (.ref a1), .val (.ref a2), .val .null, .val (.int (1 : Int32)), .val (.int (0 : Int32))] [(.ref a1)])) (fun _ k => XS.aloadN X0.here hx rfl (hb hby d24_0) rfl rfl k) ?_
  obtain ⟨T1, X1, e1, st1⟩ := getF X0 hx hZ hown (host := "") (Or.inl (own_w175 hw)) Via.refl e0 F_known_a1 (g := (mkF m 1 #[.val (.ref a1), .val (.ref a2), .val .null, .val (.int (1 : Int32)), .val (.int (0 : Int32))] [(.ref a1)])) rfl rfl (hb hby d24_1)
  refine own_step (f' := (mkF m 4 #[.val (.ref a1), .val (.ref a2), .val .null, .val (.int (1 : Int32)), .val (.int (0 : Int32))] [(.int (1 : Int32))])) st1 ?_
  refine own_step (f' := (mkF m 7 #[.val (.ref a1), .val (.ref a2), .val .null, .val (.int (1 : Int32)), .val (.int (0 : Int32))] [])) (fun _ k => XS.ifNo X1.here hx rfl (hb hby d24_4) rfl ((if0 _ _).trans (feq (by decide : ¬ ((1 : Int32) = (0 : Int32)))).1) k) ?_
  refine own_step (f' := (mkF m 8 #[.val (.ref a1), .val (.ref a2), .val .null, .val (.int (1 : Int32)), .val (.int (0 : Int32))] [(.ref a1)])) (fun _ k => XS.aloadN X1.here hx rfl (hb hby d24_7) rfl rfl k) ?_
  obtain ⟨T2, X2, e2, st2⟩ := getF X1 hx hZ hown (host := "") (Or.inl (own_w167 hw)) Via.refl e1 F_declared_a1 (g := (mkF m 8 #[.val (.ref a1), .val (.ref a2), .val .null, .val (.int (1 : Int32)), .val (.int (0 : Int32))] [(.ref a1)])) rfl rfl (hb hby d24_8)
  refine own_step (f' := (mkF m 11 #[.val (.ref a1), .val (.ref a2), .val .null, .val (.int (1 : Int32)), .val (.int (0 : Int32))] [.null])) st2 ?_
  refine own_step (f' := (mkF m 12 #[.val (.ref a1), .val (.ref a2), .val .null, .val (.int (1 : Int32)), .val (.int (0 : Int32))] [.null, .null])) (fun _ k => XS.aloadN X2.here hx rfl (hb hby d24_11) rfl rfl k) ?_
  refine own_step (f' := (mkF m 15 #[.val (.ref a1), .val (.ref a2), .val .null, .val (.int (1 : Int32)), .val (.int (0 : Int32))] [])) (fun _ k => Jvm.RoadKit.acmp (g := (mkF m 12 #[.val (.ref a1), .val (.ref a2), .val .null, .val (.int (1 : Int32)), .val (.int (0 : Int32))] [.null, .null])) X2 hx rfl rfl rfl (pc0 := 12) (pc' := 15) (same := true) rfl (hb hby d24_12) rfl (decide_eq_true rfl) (by decide) (by decide) k) ?_
  refine own_step (f' := (mkF m 16 #[.val (.ref a1), .val (.ref a2), .val .null, .val (.int (1 : Int32)), .val (.int (0 : Int32))] [(.ref a1)])) (fun _ k => XS.aloadN X2.here hx rfl (hb hby d24_15) rfl rfl k) ?_
  obtain ⟨T3, X3, e3, st3⟩ := getF X2 hx hZ hown (host := "") (Or.inl (own_w169 hw)) Via.refl e2 F_loose_a1 (g := (mkF m 16 #[.val (.ref a1), .val (.ref a2), .val .null, .val (.int (1 : Int32)), .val (.int (0 : Int32))] [(.ref a1)])) rfl rfl (hb hby d24_16)
  refine own_step (f' := (mkF m 19 #[.val (.ref a1), .val (.ref a2), .val .null, .val (.int (1 : Int32)), .val (.int (0 : Int32))] [(.int (1 : Int32))])) st3 ?_
  refine own_step (f' := (mkF m 20 #[.val (.ref a1), .val (.ref a2), .val .null, .val (.int (1 : Int32)), .val (.int (0 : Int32))] [(.int (1 : Int32)), (.int (1 : Int32))])) (fun _ k => XS.iloadN X3.here hx rfl (hb hby d24_19) rfl k) ?_
  refine own_step (f' := (mkF m 23 #[.val (.ref a1), .val (.ref a2), .val .null, .val (.int (1 : Int32)), .val (.int (0 : Int32))] [])) (fun _ k => XS.icmpNo X3.here hx rfl (hb hby d24_20) rfl (teq (by decide : ((1 : Int32) = (1 : Int32)))).2 k) ?_
  refine own_step (f' := (mkF m 24 #[.val (.ref a1), .val (.ref a2), .val .null, .val (.int (1 : Int32)), .val (.int (0 : Int32))] [(.ref a1)])) (fun _ k => XS.aloadN X3.here hx rfl (hb hby d24_23) rfl rfl k) ?_
  obtain ⟨T4, X4, e4, st4⟩ := getF X3 hx hZ hown (host := "") (Or.inl (own_w171 hw)) Via.refl e3 F_page_a1 (g := (mkF m 24 #[.val (.ref a1), .val (.ref a2), .val .null, .val (.int (1 : Int32)), .val (.int (0 : Int32))] [(.ref a1)])) rfl rfl (hb hby d24_24)
  refine own_step (f' := (mkF m 27 #[.val (.ref a1), .val (.ref a2), .val .null, .val (.int (1 : Int32)), .val (.int (0 : Int32))] [(.int (0 : Int32))])) st4 ?_
  refine own_step (f' := (mkF m 29 #[.val (.ref a1), .val (.ref a2), .val .null, .val (.int (1 : Int32)), .val (.int (0 : Int32))] [(.int (0 : Int32)), (.int (0 : Int32))])) (fun _ k => XS.iload X4.here hx rfl (hb hby d24_27) rfl k) ?_
  refine own_step (f' := (mkF m 32 #[.val (.ref a1), .val (.ref a2), .val .null, .val (.int (1 : Int32)), .val (.int (0 : Int32))] [])) (fun _ k => XS.icmpNo X4.here hx rfl (hb hby d24_29) rfl (teq (by decide : ((0 : Int32) = (0 : Int32)))).2 k) ?_
  refine own_step (f' := (mkF m 33 #[.val (.ref a1), .val (.ref a2), .val .null, .val (.int (1 : Int32)), .val (.int (0 : Int32))] [(.ref a2)])) (fun _ k => XS.aloadN X4.here hx rfl (hb hby d24_32) rfl rfl k) ?_
  refine own_step (f' := (mkF m 34 #[.val (.ref a1), .val (.ref a2), .val .null, .val (.int (1 : Int32)), .val (.int (0 : Int32))] [(.ref a1), (.ref a2)])) (fun _ k => XS.aloadN X4.here hx rfl (hb hby d24_33) rfl rfl k) ?_
  obtain ⟨T5, X5, e5, st5⟩ := getF X4 hx hZ hown (host := "") (Or.inl (own_w153 hw)) Via.refl e4 F_bytes_a1 (g := (mkF m 34 #[.val (.ref a1), .val (.ref a2), .val .null, .val (.int (1 : Int32)), .val (.int (0 : Int32))] [(.ref a1), (.ref a2)])) rfl rfl (hb hby d24_34)
  refine own_step (f' := (mkF m 37 #[.val (.ref a1), .val (.ref a2), .val .null, .val (.int (1 : Int32)), .val (.int (0 : Int32))] [(.ref bb), (.ref a2)])) st5 ?_
  refine own_step (f' := (mkF m 38 #[.val (.ref a1), .val (.ref a2), .val .null, .val (.int (1 : Int32)), .val (.int (0 : Int32))] [(.ref a1), (.ref bb), (.ref a2)])) (fun _ k => XS.aloadN X5.here hx rfl (hb hby d24_37) rfl rfl k) ?_
  obtain ⟨T6, X6, e6, st6⟩ := getF X5 hx hZ hown (host := "") (Or.inl (own_w206 hw)) Via.refl e5 F_length_a1 (g := (mkF m 38 #[.val (.ref a1), .val (.ref a2), .val .null, .val (.int (1 : Int32)), .val (.int (0 : Int32))] [(.ref a1), (.ref bb), (.ref a2)])) rfl rfl (hb hby d24_38)
  refine own_step (f' := (mkF m 41 #[.val (.ref a1), .val (.ref a2), .val .null, .val (.int (1 : Int32)), .val (.int (0 : Int32))] [(.int (0 : Int32)), (.ref bb), (.ref a2)])) st6 ?_
  have Zq7 : n0 ≤ h0.size := Z0
  obtain ⟨cq7, kq7, q7a, q7b, q7c⟩ := isOf hZ e6 E_a2
  obtain ⟨_, _, ⟨T7, L7, k7, n7⟩, -, X7, ⟨Lc7, hQ7, l7, y7, z7⟩, st7⟩ := X6.virtualBack hx (y := (⟨own_SI, "startsWith", "([BI)Z"⟩ : MethodName)) (z := (⟨own_SI, "startsWith", "([BI)Z"⟩ : MethodName)) hown (mvT hZ (own_w207 hw)) (mvT hZ (own_w208 hw)) (notFace_of_selects (args := #[]) (mvT hZ (own_w210 hw))) (mvT hZ (own_w210 hw)) (mvT hZ (own_w209 hw)) (by decide) (backOf (W := 0) (rm25 l Z a0 hw [] a2 bb h0 n0 Zq7 F_limit_a2 F_pos_a2) hZ (own_w211 hw) (own_w71 hw) (by decide) (by decide)) q7a q7c (g := (mkF m 41 #[.val (.ref a1), .val (.ref a2), .val .null, .val (.int (1 : Int32)), .val (.int (0 : Int32))] [(.int (0 : Int32)), (.ref bb), (.ref a2)])) rfl (by rw [hml]; rfl) (Steps.refl _) (argsL := [(.ref bb), (.int (0 : Int32))]) (rest := []) (lenOf pd_13 rfl) rfl (by show 2 * 0 + _ ≤ _; exact Nat.le_of_eq rfl) (hb hby d24_41) (fun _ _ => ⟨rfl, e6, (by decide : 0 + 0 ≤ _), (by decide : 0 + 0 ≤ _)⟩)
  dsimp only [Pt.U, Pt.locs, Pt.cells, Pt.slots] at X7 l7 y7 z7 st7 hQ7
  subst l7 y7 z7
  obtain ⟨rfl, rfl, e7⟩ := hQ7
  try rw [List.append_nil] at X7
  refine own_jump (f' := (mkF m 44 #[.val (.ref a1), .val (.ref a2), .val .null, .val (.int (1 : Int32)), .val (.int (0 : Int32))] [(.int (1 : Int32))])) st7 ?_
  refine own_step (f' := (mkF m 47 #[.val (.ref a1), .val (.ref a2), .val .null, .val (.int (1 : Int32)), .val (.int (0 : Int32))] [])) (fun _ k => XS.ifNo X7.here hx rfl (hb hby d24_44) rfl ((if0 _ _).trans (feq (by decide : ¬ ((1 : Int32) = (0 : Int32)))).1) k) ?_
  refine own_step (f' := (mkF m 48 #[.val (.ref a1), .val (.ref a2), .val .null, .val (.int (1 : Int32)), .val (.int (0 : Int32))] [(.int (1 : Int32))])) (fun _ k => XS.iconst X7.here hx rfl (hb hby d24_47) k) ?_
  refine own_step (f' := (mkF m 52 #[.val (.ref a1), .val (.ref a2), .val .null, .val (.int (1 : Int32)), .val (.int (0 : Int32))] [(.int (1 : Int32))])) (fun _ k => XS.goto X7.here hx rfl (pc0 := 48) (pc' := 52) rfl (hb hby d24_48) (by decide) (by decide) k) ?_
  refine own_out (v := some (.int (1 : Int32))) X7 hlk (fun h => by rw [Bd.returns] at h; cases h) (fun fs hr => retN X7 hx (t := .boolean) Bd.returns (by simp) (hb hby d24_52) hr) (by decide) (by decide) ?_
  rw [e7]
  exact ⟨rfl, rfl, rfl⟩
theorem d24_51 : decode prog_12_method_6_code 51 = .ok (.iconst 0, 1) := by decide +kernel
theorem ef_24n (m : MethodId) (x0 : Addr) (x1 : Addr) (x3 : Int32) (x4 : Int32) : entryFrame m #[(.ref x0), (.ref x1), .null, (.int x3), (.int x4)] 5 = mkF m 0 #[.val (.ref x0), .val (.ref x1), .val .null, .val (.int x3), .val (.int x4)] [] := by first | (simp [entryFrame, mkF, argsToLocals, Value.category]; done) | rfl
def Q24n (Z : State) (a1 : Addr) (a2 : Addr) (h0 : Heap) (n0 : Nat) (v : Option Value) (h : Heap) (L : List Loc) : Prop := v = some (.int (0 : Int32)) ∧ L = [] ∧ h = h0
abbrev R24n : Room := { frames := 0, cells := 0, slots := 0, locals := 0 }
set_option maxRecDepth 65536 in
set_option maxHeartbeats 40000000 in
theorem rm24n (l : Launch) (Z : State) (a0 : Array Value) (hw : ∀ d ∈ tables_1, d.before a0 Z = true) (ws : List Jvm.Cond) (a1 : Addr) (a2 : Addr) (h0 : Heap) (n0 : Nat) (Z0 : n0 ≤ h0.size) (F_known_a1 : Fld Z h0 a1 own_CO "known" "Z" (.int (0 : Int32))) :
    MetFree l (⟨own_CO, "codes", "(Lcom/example/valbonne/valbonne/codec/StreamInput;Lcom/example/valbonne/valbonne/codec/DeclaredAttributes;ZI)Z"⟩ : MethodName) (head1 (Jvm.Cond.code (⟨own_CO, "codes", "(Lcom/example/valbonne/valbonne/codec/StreamInput;Lcom/example/valbonne/valbonne/codec/DeclaredAttributes;ZI)Z"⟩ : MethodName) prog_12_method_6_code 5 (some .boolean) :: ws) R24n) (fun a U => a = #[(.ref a1), (.ref a2), .null, (.int (1 : Int32)), (.int (0 : Int32))] ∧ Z.Warmed39 U.vm ∧ U.heap = h0) (fun _ _ _ _ _ => True) (fun _ U o U' => ∃ v L, o = .returned v ∧ Q24n Z a1 a2 h0 n0 v U'.heap L ∧ FrameEnd U o U' L R24n.cells R24n.slots) := by
  refine MetFree.of_bodySF (plainFor_of_name pn_6) hisR ?_
  intro p e s m args below meth c s₁ Bd hml0 hP hK
  obtain ⟨rfl, hZ, hh⟩ := hP
  have hx := Bd.exec
  have hby := Bd.bytes
  have hlk : meth.locks = false := BodyLoose.notSynchronized Bd
  have hml : c.maxLocals = 5 := hml0
  have hown : s.vm.findClass own_CO = some m.cls := findClass_of_methodNamed Bd.named
  have hnm := (name_of_methodNamed Bd.named Bd.method).1
  have X0 : Stand p l e R24n s m #[(.ref a1), (.ref a2), .null, (.int (1 : Int32)), (.int (0 : Int32))] below meth c s₁ [] 0 0 := Stand.of_body Bd
  have e0 : s₁.heap = h0 := by rw [← hh, Bd.state]; rfl
  have N0 := Fr.nil n0
  show own_Goes p e below s (Q24n Z a1 a2 h0 n0) R24n.cells R24n.slots s₁ (entryFrame m #[(.ref a1), (.ref a2), .null, (.int (1 : Int32)), (.int (0 : Int32))] 5)
  rw [ef_24n m a1 a2 (1 : Int32) (0 : Int32)]
  refine own_step (f' := (mkF m 1 #[.val (.ref a1), .val (.ref a2), .val .null, .val (.int (1 : Int32)), .val (.int (0 : Int32))] [(.ref a1)])) (fun _ k => XS.aloadN X0.here hx rfl (hb hby d24_0) rfl rfl k) ?_
  obtain ⟨T1, X1, e1, st1⟩ := getF X0 hx hZ hown (host := "") (Or.inl (own_w175 hw)) Via.refl e0 F_known_a1 (g := (mkF m 1 #[.val (.ref a1), .val (.ref a2), .val .null, .val (.int (1 : Int32)), .val (.int (0 : Int32))] [(.ref a1)])) rfl rfl (hb hby d24_1)
  refine own_step (f' := (mkF m 4 #[.val (.ref a1), .val (.ref a2), .val .null, .val (.int (1 : Int32)), .val (.int (0 : Int32))] [(.int (0 : Int32))])) st1 ?_
  refine own_step (f' := (mkF m 51 #[.val (.ref a1), .val (.ref a2), .val .null, .val (.int (1 : Int32)), .val (.int (0 : Int32))] [])) (fun _ k => XS.ifYes X1.here hx rfl (pc0 := 4) (pc' := 51) rfl (hb hby d24_4) rfl ((if0 _ _).trans (teq (by decide : ((0 : Int32) = (0 : Int32)))).1) (by decide) (by decide) k) ?_
  refine own_step (f' := (mkF m 52 #[.val (.ref a1), .val (.ref a2), .val .null, .val (.int (1 : Int32)), .val (.int (0 : Int32))] [(.int (0 : Int32))])) (fun _ k => XS.iconst X1.here hx rfl (hb hby d24_51) k) ?_
  refine own_out (v := some (.int (0 : Int32))) X1 hlk (fun h => by rw [Bd.returns] at h; cases h) (fun fs hr => retN X1 hx (t := .boolean) Bd.returns (by simp) (hb hby d24_52) hr) (by decide) (by decide) ?_
  rw [e1]
  exact ⟨rfl, rfl, rfl⟩
theorem own_w123 {a0 Z} (hw : own_HW a0 Z) : (Cond.lays "com/example/valbonne/valbonne/codec/StreamInput" "com/example/valbonne/valbonne/codec/StreamInput" "pos" "I").before a0 Z = true := own_at hw 123 rfl
theorem own_w70 {a0 Z} (hw : own_HW a0 Z) : (Cond.instantiable "com/example/valbonne/valbonne/codec/StreamInput" (14 : Nat)).before a0 Z = true := own_at hw 70 rfl
theorem own_w139 {a0 Z} (hw : own_HW a0 Z) : (Cond.lays "com/example/valbonne/valbonne/codec/StreamInput" "com/example/valbonne/valbonne/codec/StreamInput" "attributePage" "I").before a0 Z = true := own_at hw 139 rfl
theorem d26_0 : decode prog_83_method_14_code 0 = .ok (.aload_n 0, 1) := by decide +kernel
theorem d26_1 : decode prog_83_method_14_code 1 = .ok (.dup, 1) := by decide +kernel
theorem d26_2 : decode prog_83_method_14_code 2 = .ok (.getfield 48, 3) := by decide +kernel
theorem d26_5 : decode prog_83_method_14_code 5 = .ok (.iload_n 1, 1) := by decide +kernel
theorem d26_6 : decode prog_83_method_14_code 6 = .ok (.iadd, 1) := by decide +kernel
theorem d26_7 : decode prog_83_method_14_code 7 = .ok (.putfield 48, 3) := by decide +kernel
theorem d26_10 : decode prog_83_method_14_code 10 = .ok (.return_, 1) := by decide +kernel
theorem ef_26 (m : MethodId) (x0 : Addr) (x1 : Int32) : entryFrame m #[(.ref x0), (.int x1)] 2 = mkF m 0 #[.val (.ref x0), .val (.int x1)] [] := by first | (simp [entryFrame, mkF, argsToLocals, Value.category]; done) | rfl
def Q26 (Z : State) (a1 : Addr) (h0 : Heap) (n0 : Nat) (v : Option Value) (h : Heap) (L : List Loc) : Prop := v = none ∧ Fr n0 L ∧ Keep h0 h [a1] ∧ Fld Z h a1 own_SI "attributePage" "I" (.int (0 : Int32))
abbrev R26 : Room := { frames := 0, cells := 0, slots := 0, locals := 0 }
set_option maxRecDepth 65536 in
set_option maxHeartbeats 40000000 in
theorem rm26 (l : Launch) (Z : State) (a0 : Array Value) (hw : ∀ d ∈ tables_1, d.before a0 Z = true) (ws : List Jvm.Cond) (a1 : Addr) (h0 : Heap) (n0 : Nat) (Z0 : n0 ≤ h0.size) (E_a1 : Exa Z h0 a1 own_SI) (g_a1 : n0 ≤ a1) (F_pos_a1 : Fld Z h0 a1 own_SI "pos" "I" (.int (0 : Int32))) (F_attributePage_a1 : Fld Z h0 a1 own_SI "attributePage" "I" (.int (0 : Int32))) :
    MetFree l (⟨own_SI, "skip", "(I)V"⟩ : MethodName) (head1 (Jvm.Cond.code (⟨own_SI, "skip", "(I)V"⟩ : MethodName) prog_83_method_14_code 2 none :: ws) R26) (fun a U => a = #[(.ref a1), (.int (0 : Int32))] ∧ Z.Warmed39 U.vm ∧ U.heap = h0) (fun _ _ _ _ _ => True) (fun _ U o U' => ∃ v L, o = .returned v ∧ Q26 Z a1 h0 n0 v U'.heap L ∧ FrameEnd U o U' L R26.cells R26.slots) := by
  refine MetFree.of_bodySF (plainFor_of_name pn_7) hisR ?_
  intro p e s m args below meth c s₁ Bd hml0 hP hK
  obtain ⟨rfl, hZ, hh⟩ := hP
  have hx := Bd.exec
  have hby := Bd.bytes
  have hlk : meth.locks = false := BodyLoose.notSynchronized Bd
  have hml : c.maxLocals = 2 := hml0
  have hown : s.vm.findClass own_SI = some m.cls := findClass_of_methodNamed Bd.named
  have hnm := (name_of_methodNamed Bd.named Bd.method).1
  have X0 : Stand p l e R26 s m #[(.ref a1), (.int (0 : Int32))] below meth c s₁ [] 0 0 := Stand.of_body Bd
  have e0 : s₁.heap = h0 := by rw [← hh, Bd.state]; rfl
  have N0 := Fr.nil n0
  show own_Goes p e below s (Q26 Z a1 h0 n0) R26.cells R26.slots s₁ (entryFrame m #[(.ref a1), (.int (0 : Int32))] 2)
  rw [ef_26 m a1 (0 : Int32)]
  refine own_step (f' := (mkF m 1 #[.val (.ref a1), .val (.int (0 : Int32))] [(.ref a1)])) (fun _ k => XS.aloadN X0.here hx rfl (hb hby d26_0) rfl rfl k) ?_
  refine own_step (f' := (mkF m 2 #[.val (.ref a1), .val (.int (0 : Int32))] [(.ref a1), (.ref a1)])) (fun _ k => XS.dup X0.here hx rfl (hb hby d26_1) rfl rfl k) ?_
  obtain ⟨T1, X1, e1, st1⟩ := getF X0 hx hZ hown (host := "") (Or.inl (own_w122 hw)) Via.refl e0 F_pos_a1 (g := (mkF m 2 #[.val (.ref a1), .val (.int (0 : Int32))] [(.ref a1), (.ref a1)])) rfl rfl (hb hby d26_2)
  refine own_step (f' := (mkF m 5 #[.val (.ref a1), .val (.int (0 : Int32))] [(.int (0 : Int32)), (.ref a1)])) st1 ?_
  refine own_step (f' := (mkF m 6 #[.val (.ref a1), .val (.int (0 : Int32))] [(.int (0 : Int32)), (.int (0 : Int32)), (.ref a1)])) (fun _ k => XS.iloadN X1.here hx rfl (hb hby d26_5) rfl k) ?_
  refine own_step (f' := (mkF m 7 #[.val (.ref a1), .val (.int (0 : Int32))] [(.int (0 : Int32)), (.ref a1)])) (fun _ k => XS.iadd X1.here hx rfl (hb hby d26_6) rfl k) ?_
  obtain ⟨T2, h2, X2, e2, W2, st2⟩ := putF X1 hx hZ hown (host := "") (Or.inl (own_w122 hw)) Via.refl e1 F_pos_a1 E_a1 (Or.inl (own_w123 hw)) (own_w70 hw) own_fd_2 rfl rfl (g := (mkF m 7 #[.val (.ref a1), .val (.int (0 : Int32))] [(.int (0 : Int32)), (.ref a1)])) rfl rfl (hb hby d26_7)
  obtain ⟨Lo2, X2, N2⟩ : ∃ K, Stand p l e R26 s m #[(.ref a1), (.int (0 : Int32))] below meth c T2 K 0 0 ∧ Fr n0 K := ⟨_, X2, (Fr.snoc X2 N0 g_a1)⟩
  refine own_step (f' := (mkF m 10 #[.val (.ref a1), .val (.int (0 : Int32))] [])) st2 ?_
  refine own_out (v := none) X2 hlk (fun _ => rfl) (fun fs hr => X2.returnOut hx Bd.returns (hb hby d26_10) hr) (by decide) (by decide) ?_
  rw [e2]
  exact ⟨rfl, N2, ((Keep.refl h0 [a1]).wr W2 (Or.inl (List.mem_of_getElem? (i := 0) rfl))), (F_attributePage_a1.other W2 (Or.inr (Jvm.RoadKit.slot_ne (Or.inl (own_w139 hw)) (Or.inl (own_w123 hw)) (by decide) own_fd_2 own_fd_2)))⟩
theorem d27_0 : decode prog_83_method_12_code 0 = .ok (.aload_n 0, 1) := by decide +kernel
theorem d27_1 : decode prog_83_method_12_code 1 = .ok (.iload_n 1, 1) := by decide +kernel
theorem d27_2 : decode prog_83_method_12_code 2 = .ok (.putfield 81, 3) := by decide +kernel
theorem d27_5 : decode prog_83_method_12_code 5 = .ok (.return_, 1) := by decide +kernel
theorem ef_27 (m : MethodId) (x0 : Addr) (x1 : Int32) : entryFrame m #[(.ref x0), (.int x1)] 2 = mkF m 0 #[.val (.ref x0), .val (.int x1)] [] := by first | (simp [entryFrame, mkF, argsToLocals, Value.category]; done) | rfl
def Q27 (Z : State) (a1 : Addr) (h0 : Heap) (n0 : Nat) (v : Option Value) (h : Heap) (L : List Loc) : Prop := v = none ∧ Fr n0 L ∧ Keep h0 h [a1]
abbrev R27 : Room := { frames := 0, cells := 0, slots := 0, locals := 0 }
set_option maxRecDepth 65536 in
set_option maxHeartbeats 40000000 in
theorem rm27 (l : Launch) (Z : State) (a0 : Array Value) (hw : ∀ d ∈ tables_1, d.before a0 Z = true) (ws : List Jvm.Cond) (a1 : Addr) (h0 : Heap) (n0 : Nat) (Z0 : n0 ≤ h0.size) (E_a1 : Exa Z h0 a1 own_SI) (g_a1 : n0 ≤ a1) (F_attributePage_a1 : Fld Z h0 a1 own_SI "attributePage" "I" (.int (0 : Int32))) :
    MetFree l (⟨own_SI, "switchAttributePage", "(I)V"⟩ : MethodName) (head1 (Jvm.Cond.code (⟨own_SI, "switchAttributePage", "(I)V"⟩ : MethodName) prog_83_method_12_code 2 none :: ws) R27) (fun a U => a = #[(.ref a1), (.int (0 : Int32))] ∧ Z.Warmed39 U.vm ∧ U.heap = h0) (fun _ _ _ _ _ => True) (fun _ U o U' => ∃ v L, o = .returned v ∧ Q27 Z a1 h0 n0 v U'.heap L ∧ FrameEnd U o U' L R27.cells R27.slots) := by
  refine MetFree.of_bodySF (plainFor_of_name pn_7) hisR ?_
  intro p e s m args below meth c s₁ Bd hml0 hP hK
  obtain ⟨rfl, hZ, hh⟩ := hP
  have hx := Bd.exec
  have hby := Bd.bytes
  have hlk : meth.locks = false := BodyLoose.notSynchronized Bd
  have hml : c.maxLocals = 2 := hml0
  have hown : s.vm.findClass own_SI = some m.cls := findClass_of_methodNamed Bd.named
  have hnm := (name_of_methodNamed Bd.named Bd.method).1
  have X0 : Stand p l e R27 s m #[(.ref a1), (.int (0 : Int32))] below meth c s₁ [] 0 0 := Stand.of_body Bd
  have e0 : s₁.heap = h0 := by rw [← hh, Bd.state]; rfl
  have N0 := Fr.nil n0
  show own_Goes p e below s (Q27 Z a1 h0 n0) R27.cells R27.slots s₁ (entryFrame m #[(.ref a1), (.int (0 : Int32))] 2)
  rw [ef_27 m a1 (0 : Int32)]
  refine own_step (f' := (mkF m 1 #[.val (.ref a1), .val (.int (0 : Int32))] [(.ref a1)])) (fun _ k => XS.aloadN X0.here hx rfl (hb hby d27_0) rfl rfl k) ?_
  refine own_step (f' := (mkF m 2 #[.val (.ref a1), .val (.int (0 : Int32))] [(.int (0 : Int32)), (.ref a1)])) (fun _ k => XS.iloadN X0.here hx rfl (hb hby d27_1) rfl k) ?_
  obtain ⟨T1, h1, X1, e1, W1, st1⟩ := putF X0 hx hZ hown (host := "") (Or.inl (own_w138 hw)) Via.refl e0 F_attributePage_a1 E_a1 (Or.inl (own_w139 hw)) (own_w70 hw) own_fd_2 rfl rfl (g := (mkF m 2 #[.val (.ref a1), .val (.int (0 : Int32))] [(.int (0 : Int32)), (.ref a1)])) rfl rfl (hb hby d27_2)
  obtain ⟨Lo1, X1, N1⟩ : ∃ K, Stand p l e R27 s m #[(.ref a1), (.int (0 : Int32))] below meth c T1 K 0 0 ∧ Fr n0 K := ⟨_, X1, (Fr.snoc X1 N0 g_a1)⟩
  refine own_step (f' := (mkF m 5 #[.val (.ref a1), .val (.int (0 : Int32))] [])) st1 ?_
  refine own_out (v := none) X1 hlk (fun _ => rfl) (fun fs hr => X1.returnOut hx Bd.returns (hb hby d27_5) hr) (by decide) (by decide) ?_
  rw [e1]
  exact ⟨rfl, N1, ((Keep.refl h0 [a1]).wr W1 (Or.inl (List.mem_of_getElem? (i := 0) rfl)))⟩
theorem d17_0 : decode prog_11_method_2_code 0 = .ok (.aconst_null, 1) := by decide +kernel
theorem d17_1 : decode prog_11_method_2_code 1 = .ok (.astore 4, 2) := by decide +kernel
theorem d17_3 : decode prog_11_method_2_code 3 = .ok (.iload_n 3, 1) := by decide +kernel
theorem d17_4 : decode prog_11_method_2_code 4 = .ok (.ifCond .ne 18, 3) := by decide +kernel
theorem d17_22 : decode prog_11_method_2_code 22 = .ok (.aload_n 1, 1) := by decide +kernel
theorem d17_23 : decode prog_11_method_2_code 23 = .ok (.invokevirtual 25, 3) := by decide +kernel
theorem d17_26 : decode prog_11_method_2_code 26 = .ok (.istore 5, 2) := by decide +kernel
theorem d17_28 : decode prog_11_method_2_code 28 = .ok (.iconst 0, 1) := by decide +kernel
theorem d17_29 : decode prog_11_method_2_code 29 = .ok (.istore 6, 2) := by decide +kernel
theorem d17_31 : decode prog_11_method_2_code 31 = .ok (.iload 6, 2) := by decide +kernel
theorem d17_33 : decode prog_11_method_2_code 33 = .ok (.bipush 16, 2) := by decide +kernel
theorem d17_35 : decode prog_11_method_2_code 35 = .ok (.if_icmp .ge 51, 3) := by decide +kernel
theorem d17_38 : decode prog_11_method_2_code 38 = .ok (.aload 4, 2) := by decide +kernel
theorem d17_40 : decode prog_11_method_2_code 40 = .ok (.ifnonnull 46, 3) := by decide +kernel
theorem d17_43 : decode prog_11_method_2_code 43 = .ok (.aload_n 0, 1) := by decide +kernel
theorem d17_44 : decode prog_11_method_2_code 44 = .ok (.getfield 11, 3) := by decide +kernel
theorem d17_47 : decode prog_11_method_2_code 47 = .ok (.iload 6, 2) := by decide +kernel
theorem d17_49 : decode prog_11_method_2_code 49 = .ok (.aaload, 1) := by decide +kernel
theorem d17_50 : decode prog_11_method_2_code 50 = .ok (.ifnull 30, 3) := by decide +kernel
theorem d17_80 : decode prog_11_method_2_code 80 = .ok (.iinc 6 1, 3) := by decide +kernel
theorem d17_83 : decode prog_11_method_2_code 83 = .ok (.goto (-52), 3) := by decide +kernel
theorem d17_86 : decode prog_11_method_2_code 86 = .ok (.aload 4, 2) := by decide +kernel
theorem d17_88 : decode prog_11_method_2_code 88 = .ok (.ifnull 21, 3) := by decide +kernel
theorem d17_109 : decode prog_11_method_2_code 109 = .ok (.aload 4, 2) := by decide +kernel
theorem d17_111 : decode prog_11_method_2_code 111 = .ok (.areturn, 1) := by decide +kernel
theorem ef_17n (m : MethodId) (x0 : Addr) (x1 : Addr) (x3 : Int32) : entryFrame m #[(.ref x0), (.ref x1), .null, (.int x3)] 7 = mkF m 0 #[.val (.ref x0), .val (.ref x1), .val .null, .val (.int x3), .unset, .unset, .unset] [] := by first | (simp [entryFrame, mkF, argsToLocals, Value.category]; done) | rfl
def Q17n (Z : State) (a1 : Addr) (a2 : Addr) (ka : Addr) (kk : ClassId) (h0 : Heap) (n0 : Nat) (v : Option Value) (h : Heap) (L : List Loc) : Prop := v = some .null ∧ L = [] ∧ h = h0
abbrev R17n : Room := { frames := 1, cells := 0, slots := 0, locals := 12 }
set_option maxRecDepth 65536 in
set_option maxHeartbeats 40000000 in
theorem rm17n (l : Launch) (Z : State) (a0 : Array Value) (hw : ∀ d ∈ tables_1, d.before a0 Z = true) (ws : List Jvm.Cond) (a1 : Addr) (a2 : Addr) (ka : Addr) (kk : ClassId) (h0 : Heap) (n0 : Nat) (Z0 : n0 ≤ h0.size) (F_kept_a1 : Fld Z h0 a1 own_AC "kept" "[Lcom/example/valbonne/valbonne/codec/AttributeCodings$Coding;" (.ref ka)) (E_a2 : Exa Z h0 a2 own_SI) (F_attributePage_a2 : Fld Z h0 a2 own_SI "attributePage" "I" (.int (0 : Int32))) (V_ka : Arv Z h0 ka kk (.object own_CO) (16 : Int32) [.null, .null, .null, .null, .null, .null, .null, .null, .null, .null, .null, .null, .null, .null, .null, .null] .null) :
    MetFree l (⟨own_AC, "readKnown", "(Lcom/example/valbonne/valbonne/codec/StreamInput;Lcom/example/valbonne/valbonne/codec/DeclaredAttributes;Z)Lcom/example/valbonne/valbonne/codec/AttributeCodings$Coding;"⟩ : MethodName) (head1 (Jvm.Cond.code (⟨own_AC, "readKnown", "(Lcom/example/valbonne/valbonne/codec/StreamInput;Lcom/example/valbonne/valbonne/codec/DeclaredAttributes;Z)Lcom/example/valbonne/valbonne/codec/AttributeCodings$Coding;"⟩ : MethodName) prog_11_method_2_code 7 (some (.object own_CO)) :: ws) R17n) (fun a U => a = #[(.ref a1), (.ref a2), .null, (.int (1 : Int32))] ∧ Z.Warmed39 U.vm ∧ U.heap = h0) (fun _ _ _ _ _ => True) (fun _ U o U' => ∃ v L, o = .returned v ∧ Q17n Z a1 a2 ka kk h0 n0 v U'.heap L ∧ FrameEnd U o U' L R17n.cells R17n.slots) := by
  refine MetFree.of_bodySF (plainFor_of_name pn_4) hisR ?_
  intro p e s m args below meth c s₁ Bd hml0 hP hK
  obtain ⟨rfl, hZ, hh⟩ := hP
  have hx := Bd.exec
  have hby := Bd.bytes
  have hlk : meth.locks = false := BodyLoose.notSynchronized Bd
  have hml : c.maxLocals = 7 := hml0
  have hown : s.vm.findClass own_AC = some m.cls := findClass_of_methodNamed Bd.named
  have hnm := (name_of_methodNamed Bd.named Bd.method).1
  have X0 : Stand p l e R17n s m #[(.ref a1), (.ref a2), .null, (.int (1 : Int32))] below meth c s₁ [] 0 0 := Stand.of_body Bd
  have e0 : s₁.heap = h0 := by rw [← hh, Bd.state]; rfl
  have N0 := Fr.nil n0
  show own_Goes p e below s (Q17n Z a1 a2 ka kk h0 n0) R17n.cells R17n.slots s₁ (entryFrame m #[(.ref a1), (.ref a2), .null, (.int (1 : Int32))] 7)
  rw [ef_17n m a1 a2 (1 : Int32)]
  refine own_step (f' := (mkF m 1 #[.val (.ref a1), .val (.ref a2), .val .null, .val (.int (1 : Int32)), .unset, .unset, .unset] [.null])) (fun _ k => XS.aconstNull X0.here hx rfl (hb hby d17_0) k) ?_
  refine own_step (f' := (mkF m 3 #[.val (.ref a1), .val (.ref a2), .val .null, .val (.int (1 : Int32)), .val .null, .unset, .unset] [])) (fun _ k => XS.astore X0.here hx rfl (hb hby d17_1) rfl rfl (l' := #[.val (.ref a1), .val (.ref a2), .val .null, .val (.int (1 : Int32)), .val .null, .unset, .unset]) rfl k) ?_
  refine own_step (f' := (mkF m 4 #[.val (.ref a1), .val (.ref a2), .val .null, .val (.int (1 : Int32)), .val .null, .unset, .unset] [(.int (1 : Int32))])) (fun _ k => XS.iloadN X0.here hx rfl (hb hby d17_3) rfl k) ?_
  refine own_step (f' := (mkF m 22 #[.val (.ref a1), .val (.ref a2), .val .null, .val (.int (1 : Int32)), .val .null, .unset, .unset] [])) (fun _ k => XS.ifYes X0.here hx rfl (pc0 := 4) (pc' := 22) rfl (hb hby d17_4) rfl ((if0 _ _).trans (feq (by decide : ¬ ((1 : Int32) = (0 : Int32)))).2) (by decide) (by decide) k) ?_
  refine own_step (f' := (mkF m 23 #[.val (.ref a1), .val (.ref a2), .val .null, .val (.int (1 : Int32)), .val .null, .unset, .unset] [(.ref a2)])) (fun _ k => XS.aloadN X0.here hx rfl (hb hby d17_22) rfl rfl k) ?_
  have Zq1 : n0 ≤ h0.size := Z0
  obtain ⟨cq1, kq1, q1a, q1b, q1c⟩ := isOf hZ e0 E_a2
  obtain ⟨_, _, ⟨T1, L1, k1, n1⟩, -, X1, ⟨Lc1, hQ1, l1, y1, z1⟩, st1⟩ := X0.virtualBack hx (y := (⟨own_SI, "attributePage", "()I"⟩ : MethodName)) (z := (⟨own_SI, "attributePage", "()I"⟩ : MethodName)) hown (mvT hZ (own_w133 hw)) (mvT hZ (own_w134 hw)) (notFace_of_selects (args := #[]) (mvT hZ (own_w136 hw))) (mvT hZ (own_w136 hw)) (mvT hZ (own_w135 hw)) (by decide) (backOf (W := 0) (rm18 l Z a0 hw [] a2 h0 n0 Zq1 F_attributePage_a2) hZ (own_w137 hw) (own_w71 hw) (by decide) (by decide)) q1a q1c (g := (mkF m 23 #[.val (.ref a1), .val (.ref a2), .val .null, .val (.int (1 : Int32)), .val .null, .unset, .unset] [(.ref a2)])) rfl (by rw [hml]; rfl) (Steps.refl _) (argsL := []) (rest := []) (lenOf pd_8 rfl) rfl (by show 2 * 0 + _ ≤ _; exact Nat.le_of_eq rfl) (hb hby d17_23) (fun _ _ => ⟨rfl, e0, (by decide : 0 + 0 ≤ _), (by decide : 0 + 0 ≤ _)⟩)
  dsimp only [Pt.U, Pt.locs, Pt.cells, Pt.slots] at X1 l1 y1 z1 st1 hQ1
  subst l1 y1 z1
  obtain ⟨rfl, rfl, e1⟩ := hQ1
  try rw [List.append_nil] at X1
  refine own_jump (f' := (mkF m 26 #[.val (.ref a1), .val (.ref a2), .val .null, .val (.int (1 : Int32)), .val .null, .unset, .unset] [(.int (0 : Int32))])) st1 ?_
  refine own_step (f' := (mkF m 28 #[.val (.ref a1), .val (.ref a2), .val .null, .val (.int (1 : Int32)), .val .null, .val (.int (0 : Int32)), .unset] [])) (fun _ k => XS.istore X1.here hx rfl (hb hby d17_26) rfl (l' := #[.val (.ref a1), .val (.ref a2), .val .null, .val (.int (1 : Int32)), .val .null, .val (.int (0 : Int32)), .unset]) rfl k) ?_
  refine own_step (f' := (mkF m 29 #[.val (.ref a1), .val (.ref a2), .val .null, .val (.int (1 : Int32)), .val .null, .val (.int (0 : Int32)), .unset] [(.int (0 : Int32))])) (fun _ k => XS.iconst X1.here hx rfl (hb hby d17_28) k) ?_
  refine own_step (f' := (mkF m 31 #[.val (.ref a1), .val (.ref a2), .val .null, .val (.int (1 : Int32)), .val .null, .val (.int (0 : Int32)), .val (.int (0 : Int32))] [])) (fun _ k => XS.istore X1.here hx rfl (hb hby d17_29) rfl (l' := #[.val (.ref a1), .val (.ref a2), .val .null, .val (.int (1 : Int32)), .val .null, .val (.int (0 : Int32)), .val (.int (0 : Int32))]) rfl k) ?_
  refine own_step (f' := (mkF m 33 #[.val (.ref a1), .val (.ref a2), .val .null, .val (.int (1 : Int32)), .val .null, .val (.int (0 : Int32)), .val (.int (0 : Int32))] [(.int (0 : Int32))])) (fun _ k => XS.iload X1.here hx rfl (hb hby d17_31) rfl k) ?_
  refine own_step (f' := (mkF m 35 #[.val (.ref a1), .val (.ref a2), .val .null, .val (.int (1 : Int32)), .val .null, .val (.int (0 : Int32)), .val (.int (0 : Int32))] [(.int (16 : Int32)), (.int (0 : Int32))])) (fun _ k => XS.bipush X1.here hx rfl (hb hby d17_33) k) ?_
  refine own_step (f' := (mkF m 38 #[.val (.ref a1), .val (.ref a2), .val .null, .val (.int (1 : Int32)), .val .null, .val (.int (0 : Int32)), .val (.int (0 : Int32))] [])) (fun _ k => XS.icmpNo X1.here hx rfl (hb hby d17_35) rfl (tlt (by decide : ((0 : Int32) < (16 : Int32)))).2.1 k) ?_
  refine own_step (f' := (mkF m 40 #[.val (.ref a1), .val (.ref a2), .val .null, .val (.int (1 : Int32)), .val .null, .val (.int (0 : Int32)), .val (.int (0 : Int32))] [.null])) (fun _ k => XS.aload X1.here hx rfl (hb hby d17_38) rfl rfl k) ?_
  refine own_step (f' := (mkF m 43 #[.val (.ref a1), .val (.ref a2), .val .null, .val (.int (1 : Int32)), .val .null, .val (.int (0 : Int32)), .val (.int (0 : Int32))] [])) (fun _ k => XS.ifnonnullNo X1.here hx rfl (hb hby d17_40) rfl k) ?_
  refine own_step (f' := (mkF m 44 #[.val (.ref a1), .val (.ref a2), .val .null, .val (.int (1 : Int32)), .val .null, .val (.int (0 : Int32)), .val (.int (0 : Int32))] [(.ref a1)])) (fun _ k => XS.aloadN X1.here hx rfl (hb hby d17_43) rfl rfl k) ?_
  obtain ⟨T2, X2, e2, st2⟩ := getF X1 hx hZ hown (host := "") (Or.inl (own_w67 hw)) Via.refl e1 F_kept_a1 (g := (mkF m 44 #[.val (.ref a1), .val (.ref a2), .val .null, .val (.int (1 : Int32)), .val .null, .val (.int (0 : Int32)), .val (.int (0 : Int32))] [(.ref a1)])) rfl rfl (hb hby d17_44)
  refine own_step (f' := (mkF m 47 #[.val (.ref a1), .val (.ref a2), .val .null, .val (.int (1 : Int32)), .val .null, .val (.int (0 : Int32)), .val (.int (0 : Int32))] [(.ref ka)])) st2 ?_
  refine own_step (f' := (mkF m 49 #[.val (.ref a1), .val (.ref a2), .val .null, .val (.int (1 : Int32)), .val .null, .val (.int (0 : Int32)), .val (.int (0 : Int32))] [(.int (0 : Int32)), (.ref ka)])) (fun _ k => XS.iload X2.here hx rfl (hb hby d17_47) rfl k) ?_
  obtain ⟨cl3, Ar3, qa3, Sa3, Na3, Ha3, Ga3⟩ := id (V_ka)
  have hin4 : ¬ ((0 : Int32) < 0 ∨ cl3.slots.size ≤ ((0 : Int32)).toNatClampNeg) := inb_of Sa3 ⟨by decide, by decide⟩
  refine own_step (f' := (mkF m 50 #[.val (.ref a1), .val (.ref a2), .val .null, .val (.int (1 : Int32)), .val .null, .val (.int (0 : Int32)), .val (.int (0 : Int32))] [.null])) (fun _ k => X2.aaload hx (j := (0 : Int32)) (v := .null) (by rw [e2]; exact Ar3.1) (State.isArrayOf_alike hZ.alike Ar3.2.1) rfl Ar3.2.2 hin4 (Ha3.at hin4 rfl) (g := (mkF m 49 #[.val (.ref a1), .val (.ref a2), .val .null, .val (.int (1 : Int32)), .val .null, .val (.int (0 : Int32)), .val (.int (0 : Int32))] [(.int (0 : Int32)), (.ref ka)])) rfl rfl (hb hby d17_49) _ k) ?_
  refine own_step (f' := (mkF m 80 #[.val (.ref a1), .val (.ref a2), .val .null, .val (.int (1 : Int32)), .val .null, .val (.int (0 : Int32)), .val (.int (0 : Int32))] [])) (fun _ k => XS.ifnullYes X2.here hx rfl (pc0 := 50) (pc' := 80) rfl (hb hby d17_50) rfl (by decide) (by decide) k) ?_
  refine own_step (f' := (mkF m 83 #[.val (.ref a1), .val (.ref a2), .val .null, .val (.int (1 : Int32)), .val .null, .val (.int (0 : Int32)), .val (.int (1 : Int32))] [])) (fun _ k => XS.iinc X2.here hx rfl (hb hby d17_80) rfl (l' := #[.val (.ref a1), .val (.ref a2), .val .null, .val (.int (1 : Int32)), .val .null, .val (.int (0 : Int32)), .val (.int (1 : Int32))]) rfl k) ?_
  refine own_step (f' := (mkF m 31 #[.val (.ref a1), .val (.ref a2), .val .null, .val (.int (1 : Int32)), .val .null, .val (.int (0 : Int32)), .val (.int (1 : Int32))] [])) (fun _ k => XS.goto X2.here hx rfl (pc0 := 83) (pc' := 31) rfl (hb hby d17_83) (by decide) (by decide) k) ?_
  have LP31 : ∀ (n : Nat) (T_31 : State) (i : Int32), Stand p l e R17n s m #[(.ref a1), (.ref a2), .null, (.int (1 : Int32))] below meth c T_31 [] 0 0 → T_31.heap = h0 → (∃ j, i = Int32.ofNat j ∧ j + n = 16 ∧ 1 ≤ j) → own_Goes p e below s (Q17n Z a1 a2 ka kk h0 n0) R17n.cells R17n.slots T_31 (mkF m 31 #[.val (.ref a1), .val (.ref a2), .val .null, .val (.int (1 : Int32)), .val .null, .val (.int (0 : Int32)), .val (.int i)] []) := by
    intro n
    induction n using Nat.strongRecOn with
    | _ n ih =>
      intro T_31 i X_31 e_31 hI
      refine own_step (f' := (mkF m 33 #[.val (.ref a1), .val (.ref a2), .val .null, .val (.int (1 : Int32)), .val .null, .val (.int (0 : Int32)), .val (.int i)] [(.int i)])) (fun _ k => XS.iload X_31.here hx rfl (hb hby d17_31) rfl k) ?_
      refine own_step (f' := (mkF m 35 #[.val (.ref a1), .val (.ref a2), .val .null, .val (.int (1 : Int32)), .val .null, .val (.int (0 : Int32)), .val (.int i)] [(.int (16 : Int32)), (.int i)])) (fun _ k => XS.bipush X_31.here hx rfl (hb hby d17_33) k) ?_
      by_cases hc35_5 : i < (16 : Int32)
      · refine own_step (f' := (mkF m 38 #[.val (.ref a1), .val (.ref a2), .val .null, .val (.int (1 : Int32)), .val .null, .val (.int (0 : Int32)), .val (.int i)] [])) (fun _ k => XS.icmpNo X_31.here hx rfl (hb hby d17_35) rfl (tlt hc35_5).2.1 k) ?_
        refine own_step (f' := (mkF m 40 #[.val (.ref a1), .val (.ref a2), .val .null, .val (.int (1 : Int32)), .val .null, .val (.int (0 : Int32)), .val (.int i)] [.null])) (fun _ k => XS.aload X_31.here hx rfl (hb hby d17_38) rfl rfl k) ?_
        refine own_step (f' := (mkF m 43 #[.val (.ref a1), .val (.ref a2), .val .null, .val (.int (1 : Int32)), .val .null, .val (.int (0 : Int32)), .val (.int i)] [])) (fun _ k => XS.ifnonnullNo X_31.here hx rfl (hb hby d17_40) rfl k) ?_
        refine own_step (f' := (mkF m 44 #[.val (.ref a1), .val (.ref a2), .val .null, .val (.int (1 : Int32)), .val .null, .val (.int (0 : Int32)), .val (.int i)] [(.ref a1)])) (fun _ k => XS.aloadN X_31.here hx rfl (hb hby d17_43) rfl rfl k) ?_
        obtain ⟨T6, X6, e6, st6⟩ := getF X_31 hx hZ hown (host := "") (Or.inl (own_w67 hw)) Via.refl e_31 F_kept_a1 (g := (mkF m 44 #[.val (.ref a1), .val (.ref a2), .val .null, .val (.int (1 : Int32)), .val .null, .val (.int (0 : Int32)), .val (.int i)] [(.ref a1)])) rfl rfl (hb hby d17_44)
        refine own_step (f' := (mkF m 47 #[.val (.ref a1), .val (.ref a2), .val .null, .val (.int (1 : Int32)), .val .null, .val (.int (0 : Int32)), .val (.int i)] [(.ref ka)])) st6 ?_
        refine own_step (f' := (mkF m 49 #[.val (.ref a1), .val (.ref a2), .val .null, .val (.int (1 : Int32)), .val .null, .val (.int (0 : Int32)), .val (.int i)] [(.int i), (.ref ka)])) (fun _ k => XS.iload X6.here hx rfl (hb hby d17_47) rfl k) ?_
        obtain ⟨cl7, Ar7, qa7, Sa7, Na7, Ha7, Ga7⟩ := id (V_ka)
        have hin8 : ¬ (i < 0 ∨ cl7.slots.size ≤ (i).toNatClampNeg) := inb_of Sa7 ⟨(own_l1 hI hc35_5).1, hc35_5⟩
        refine own_step (f' := (mkF m 50 #[.val (.ref a1), .val (.ref a2), .val .null, .val (.int (1 : Int32)), .val .null, .val (.int (0 : Int32)), .val (.int i)] [.null])) (fun _ k => X6.aaload hx (j := i) (v := .null) (by rw [e6]; exact Ar7.1) (State.isArrayOf_alike hZ.alike Ar7.2.1) rfl Ar7.2.2 hin8 (Ha7.at hin8 (own_nul _ _ (own_l1 hI hc35_5).2.1)) (g := (mkF m 49 #[.val (.ref a1), .val (.ref a2), .val .null, .val (.int (1 : Int32)), .val .null, .val (.int (0 : Int32)), .val (.int i)] [(.int i), (.ref ka)])) rfl rfl (hb hby d17_49) _ k) ?_
        refine own_step (f' := (mkF m 80 #[.val (.ref a1), .val (.ref a2), .val .null, .val (.int (1 : Int32)), .val .null, .val (.int (0 : Int32)), .val (.int i)] [])) (fun _ k => XS.ifnullYes X6.here hx rfl (pc0 := 50) (pc' := 80) rfl (hb hby d17_50) rfl (by decide) (by decide) k) ?_
        refine own_step (f' := (mkF m 83 #[.val (.ref a1), .val (.ref a2), .val .null, .val (.int (1 : Int32)), .val .null, .val (.int (0 : Int32)), .val (.int (i + (1 : Int32)))] [])) (fun _ k => XS.iinc X6.here hx rfl (hb hby d17_80) rfl (l' := #[.val (.ref a1), .val (.ref a2), .val .null, .val (.int (1 : Int32)), .val .null, .val (.int (0 : Int32)), .val (.int (i + (1 : Int32)))]) rfl k) ?_
        refine own_step (f' := (mkF m 31 #[.val (.ref a1), .val (.ref a2), .val .null, .val (.int (1 : Int32)), .val .null, .val (.int (0 : Int32)), .val (.int (i + (1 : Int32)))] [])) (fun _ k => XS.goto X6.here hx rfl (pc0 := 83) (pc' := 31) rfl (hb hby d17_83) (by decide) (by decide) k) ?_
        exact ih (n - 1) ((own_l1 hI hc35_5).2.2.1) _ (i + (1 : Int32)) X6 e6 ((own_l1 hI hc35_5).2.2.2)
      · refine own_step (f' := (mkF m 86 #[.val (.ref a1), .val (.ref a2), .val .null, .val (.int (1 : Int32)), .val .null, .val (.int (0 : Int32)), .val (.int i)] [])) (fun _ k => XS.icmpYes X_31.here hx rfl (pc0 := 35) (pc' := 86) rfl (hb hby d17_35) rfl (flt hc35_5).2.1 (by decide) (by decide) k) ?_
        refine own_step (f' := (mkF m 88 #[.val (.ref a1), .val (.ref a2), .val .null, .val (.int (1 : Int32)), .val .null, .val (.int (0 : Int32)), .val (.int i)] [.null])) (fun _ k => XS.aload X_31.here hx rfl (hb hby d17_86) rfl rfl k) ?_
        refine own_step (f' := (mkF m 109 #[.val (.ref a1), .val (.ref a2), .val .null, .val (.int (1 : Int32)), .val .null, .val (.int (0 : Int32)), .val (.int i)] [])) (fun _ k => XS.ifnullYes X_31.here hx rfl (pc0 := 88) (pc' := 109) rfl (hb hby d17_88) rfl (by decide) (by decide) k) ?_
        refine own_step (f' := (mkF m 111 #[.val (.ref a1), .val (.ref a2), .val .null, .val (.int (1 : Int32)), .val .null, .val (.int (0 : Int32)), .val (.int i)] [.null])) (fun _ k => XS.aload X_31.here hx rfl (hb hby d17_109) rfl rfl k) ?_
        refine own_out (v := some .null) X_31 hlk (fun h => by rw [Bd.returns] at h; cases h) (fun fs hr => retOut X_31 hx Bd.returns rfl (Or.inr (Or.inr (Or.inr (Or.inr ⟨rfl, rfl, rfl⟩)))) (hb hby d17_111) hr) (by decide) (by decide) ?_
        rw [e_31]
        exact ⟨rfl, rfl, rfl⟩
  exact LP31 (15) _ (1 : Int32) X2 e2 (⟨1, rfl, rfl, Nat.le_refl _⟩)
theorem own_w202 {a0 Z} (hw : own_HW a0 Z) : (Cond.methodRef "com/example/valbonne/valbonne/codec/AttributeCodings" (30 : Nat) ⟨"com/example/valbonne/valbonne/codec/AttributeCodings$Coding", "codes", "(Lcom/example/valbonne/valbonne/codec/StreamInput;Lcom/example/valbonne/valbonne/codec/DeclaredAttributes;ZI)Z"⟩).before a0 Z = true := own_at hw 202 rfl
theorem own_w205 {a0 Z} (hw : own_HW a0 Z) : (Cond.code ⟨"com/example/valbonne/valbonne/codec/AttributeCodings$Coding", "codes", "(Lcom/example/valbonne/valbonne/codec/StreamInput;Lcom/example/valbonne/valbonne/codec/DeclaredAttributes;ZI)Z"⟩ prog_12_method_6_code (5 : Nat) (some FieldType.boolean)).before a0 Z = true := own_at hw 205 rfl
theorem pd_14 : parseMethodDescriptor "(Lcom/example/valbonne/valbonne/codec/StreamInput;Lcom/example/valbonne/valbonne/codec/DeclaredAttributes;ZI)Z" = some ⟨[(.object "com/example/valbonne/valbonne/codec/StreamInput"), (.object "com/example/valbonne/valbonne/codec/DeclaredAttributes"), .boolean, .int], some .boolean⟩ := by decide +kernel
theorem own_w204 {a0 Z} (hw : own_HW a0 Z) : (Cond.privateMethod ⟨"com/example/valbonne/valbonne/codec/AttributeCodings$Coding", "codes", "(Lcom/example/valbonne/valbonne/codec/StreamInput;Lcom/example/valbonne/valbonne/codec/DeclaredAttributes;ZI)Z"⟩).before a0 Z = true := own_at hw 204 rfl
theorem own_w203 {a0 Z} (hw : own_HW a0 Z) : (Cond.instanceMethod ⟨"com/example/valbonne/valbonne/codec/AttributeCodings$Coding", "codes", "(Lcom/example/valbonne/valbonne/codec/StreamInput;Lcom/example/valbonne/valbonne/codec/DeclaredAttributes;ZI)Z"⟩).before a0 Z = true := own_at hw 203 rfl
theorem d17_53 : decode prog_11_method_2_code 53 = .ok (.aload_n 0, 1) := by decide +kernel
theorem d17_54 : decode prog_11_method_2_code 54 = .ok (.getfield 11, 3) := by decide +kernel
theorem d17_57 : decode prog_11_method_2_code 57 = .ok (.iload 6, 2) := by decide +kernel
theorem d17_59 : decode prog_11_method_2_code 59 = .ok (.aaload, 1) := by decide +kernel
theorem d17_60 : decode prog_11_method_2_code 60 = .ok (.aload_n 1, 1) := by decide +kernel
theorem d17_61 : decode prog_11_method_2_code 61 = .ok (.aload_n 2, 1) := by decide +kernel
theorem d17_62 : decode prog_11_method_2_code 62 = .ok (.iload_n 3, 1) := by decide +kernel
theorem d17_63 : decode prog_11_method_2_code 63 = .ok (.iload 5, 2) := by decide +kernel
theorem d17_65 : decode prog_11_method_2_code 65 = .ok (.invokevirtual 30, 3) := by decide +kernel
theorem d17_68 : decode prog_11_method_2_code 68 = .ok (.ifCond .eq 12, 3) := by decide +kernel
theorem ef_17d (m : MethodId) (x0 : Addr) (x1 : Addr) (x3 : Int32) : entryFrame m #[(.ref x0), (.ref x1), .null, (.int x3)] 7 = mkF m 0 #[.val (.ref x0), .val (.ref x1), .val .null, .val (.int x3), .unset, .unset, .unset] [] := by first | (simp [entryFrame, mkF, argsToLocals, Value.category]; done) | rfl
def Q17d (Z : State) (a1 : Addr) (a2 : Addr) (ka : Addr) (kk : ClassId) (cg : Addr) (h0 : Heap) (n0 : Nat) (v : Option Value) (h : Heap) (L : List Loc) : Prop := v = some .null ∧ L = [] ∧ h = h0
abbrev R17d : Room := { frames := 1, cells := 0, slots := 0, locals := 16 }
set_option maxRecDepth 65536 in
set_option maxHeartbeats 40000000 in
theorem rm17d (l : Launch) (Z : State) (a0 : Array Value) (hw : ∀ d ∈ tables_1, d.before a0 Z = true) (ws : List Jvm.Cond) (a1 : Addr) (a2 : Addr) (ka : Addr) (kk : ClassId) (cg : Addr) (h0 : Heap) (n0 : Nat) (Z0 : n0 ≤ h0.size) (F_kept_a1 : Fld Z h0 a1 own_AC "kept" "[Lcom/example/valbonne/valbonne/codec/AttributeCodings$Coding;" (.ref ka)) (E_a2 : Exa Z h0 a2 own_SI) (F_attributePage_a2 : Fld Z h0 a2 own_SI "attributePage" "I" (.int (0 : Int32))) (V_ka : Arv Z h0 ka kk (.object own_CO) (16 : Int32) [(.ref cg), .null, .null, .null, .null, .null, .null, .null, .null, .null, .null, .null, .null, .null, .null, .null] .null) (E_cg : Exa Z h0 cg own_CO) (F_known_cg : Fld Z h0 cg own_CO "known" "Z" (.int (0 : Int32))) :
    MetFree l (⟨own_AC, "readKnown", "(Lcom/example/valbonne/valbonne/codec/StreamInput;Lcom/example/valbonne/valbonne/codec/DeclaredAttributes;Z)Lcom/example/valbonne/valbonne/codec/AttributeCodings$Coding;"⟩ : MethodName) (head1 (Jvm.Cond.code (⟨own_AC, "readKnown", "(Lcom/example/valbonne/valbonne/codec/StreamInput;Lcom/example/valbonne/valbonne/codec/DeclaredAttributes;Z)Lcom/example/valbonne/valbonne/codec/AttributeCodings$Coding;"⟩ : MethodName) prog_11_method_2_code 7 (some (.object own_CO)) :: ws) R17d) (fun a U => a = #[(.ref a1), (.ref a2), .null, (.int (1 : Int32))] ∧ Z.Warmed39 U.vm ∧ U.heap = h0) (fun _ _ _ _ _ => True) (fun _ U o U' => ∃ v L, o = .returned v ∧ Q17d Z a1 a2 ka kk cg h0 n0 v U'.heap L ∧ FrameEnd U o U' L R17d.cells R17d.slots) := by
  refine MetFree.of_bodySF (plainFor_of_name pn_4) hisR ?_
  intro p e s m args below meth c s₁ Bd hml0 hP hK
  obtain ⟨rfl, hZ, hh⟩ := hP
  have hx := Bd.exec
  have hby := Bd.bytes
  have hlk : meth.locks = false := BodyLoose.notSynchronized Bd
  have hml : c.maxLocals = 7 := hml0
  have hown : s.vm.findClass own_AC = some m.cls := findClass_of_methodNamed Bd.named
  have hnm := (name_of_methodNamed Bd.named Bd.method).1
  have X0 : Stand p l e R17d s m #[(.ref a1), (.ref a2), .null, (.int (1 : Int32))] below meth c s₁ [] 0 0 := Stand.of_body Bd
  have e0 : s₁.heap = h0 := by rw [← hh, Bd.state]; rfl
  have N0 := Fr.nil n0
  show own_Goes p e below s (Q17d Z a1 a2 ka kk cg h0 n0) R17d.cells R17d.slots s₁ (entryFrame m #[(.ref a1), (.ref a2), .null, (.int (1 : Int32))] 7)
  rw [ef_17d m a1 a2 (1 : Int32)]
  refine own_step (f' := (mkF m 1 #[.val (.ref a1), .val (.ref a2), .val .null, .val (.int (1 : Int32)), .unset, .unset, .unset] [.null])) (fun _ k => XS.aconstNull X0.here hx rfl (hb hby d17_0) k) ?_
  refine own_step (f' := (mkF m 3 #[.val (.ref a1), .val (.ref a2), .val .null, .val (.int (1 : Int32)), .val .null, .unset, .unset] [])) (fun _ k => XS.astore X0.here hx rfl (hb hby d17_1) rfl rfl (l' := #[.val (.ref a1), .val (.ref a2), .val .null, .val (.int (1 : Int32)), .val .null, .unset, .unset]) rfl k) ?_
  refine own_step (f' := (mkF m 4 #[.val (.ref a1), .val (.ref a2), .val .null, .val (.int (1 : Int32)), .val .null, .unset, .unset] [(.int (1 : Int32))])) (fun _ k => XS.iloadN X0.here hx rfl (hb hby d17_3) rfl k) ?_
  refine own_step (f' := (mkF m 22 #[.val (.ref a1), .val (.ref a2), .val .null, .val (.int (1 : Int32)), .val .null, .unset, .unset] [])) (fun _ k => XS.ifYes X0.here hx rfl (pc0 := 4) (pc' := 22) rfl (hb hby d17_4) rfl ((if0 _ _).trans (feq (by decide : ¬ ((1 : Int32) = (0 : Int32)))).2) (by decide) (by decide) k) ?_
  refine own_step (f' := (mkF m 23 #[.val (.ref a1), .val (.ref a2), .val .null, .val (.int (1 : Int32)), .val .null, .unset, .unset] [(.ref a2)])) (fun _ k => XS.aloadN X0.here hx rfl (hb hby d17_22) rfl rfl k) ?_
  have Zq1 : n0 ≤ h0.size := Z0
  obtain ⟨cq1, kq1, q1a, q1b, q1c⟩ := isOf hZ e0 E_a2
  obtain ⟨_, _, ⟨T1, L1, k1, n1⟩, -, X1, ⟨Lc1, hQ1, l1, y1, z1⟩, st1⟩ := X0.virtualBack hx (y := (⟨own_SI, "attributePage", "()I"⟩ : MethodName)) (z := (⟨own_SI, "attributePage", "()I"⟩ : MethodName)) hown (mvT hZ (own_w133 hw)) (mvT hZ (own_w134 hw)) (notFace_of_selects (args := #[]) (mvT hZ (own_w136 hw))) (mvT hZ (own_w136 hw)) (mvT hZ (own_w135 hw)) (by decide) (backOf (W := 0) (rm18 l Z a0 hw [] a2 h0 n0 Zq1 F_attributePage_a2) hZ (own_w137 hw) (own_w71 hw) (by decide) (by decide)) q1a q1c (g := (mkF m 23 #[.val (.ref a1), .val (.ref a2), .val .null, .val (.int (1 : Int32)), .val .null, .unset, .unset] [(.ref a2)])) rfl (by rw [hml]; rfl) (Steps.refl _) (argsL := []) (rest := []) (lenOf pd_8 rfl) rfl (by show 2 * 0 + _ ≤ _; exact Nat.le_of_eq rfl) (hb hby d17_23) (fun _ _ => ⟨rfl, e0, (by decide : 0 + 0 ≤ _), (by decide : 0 + 0 ≤ _)⟩)
  dsimp only [Pt.U, Pt.locs, Pt.cells, Pt.slots] at X1 l1 y1 z1 st1 hQ1
  subst l1 y1 z1
  obtain ⟨rfl, rfl, e1⟩ := hQ1
  try rw [List.append_nil] at X1
  refine own_jump (f' := (mkF m 26 #[.val (.ref a1), .val (.ref a2), .val .null, .val (.int (1 : Int32)), .val .null, .unset, .unset] [(.int (0 : Int32))])) st1 ?_
  refine own_step (f' := (mkF m 28 #[.val (.ref a1), .val (.ref a2), .val .null, .val (.int (1 : Int32)), .val .null, .val (.int (0 : Int32)), .unset] [])) (fun _ k => XS.istore X1.here hx rfl (hb hby d17_26) rfl (l' := #[.val (.ref a1), .val (.ref a2), .val .null, .val (.int (1 : Int32)), .val .null, .val (.int (0 : Int32)), .unset]) rfl k) ?_
  refine own_step (f' := (mkF m 29 #[.val (.ref a1), .val (.ref a2), .val .null, .val (.int (1 : Int32)), .val .null, .val (.int (0 : Int32)), .unset] [(.int (0 : Int32))])) (fun _ k => XS.iconst X1.here hx rfl (hb hby d17_28) k) ?_
  refine own_step (f' := (mkF m 31 #[.val (.ref a1), .val (.ref a2), .val .null, .val (.int (1 : Int32)), .val .null, .val (.int (0 : Int32)), .val (.int (0 : Int32))] [])) (fun _ k => XS.istore X1.here hx rfl (hb hby d17_29) rfl (l' := #[.val (.ref a1), .val (.ref a2), .val .null, .val (.int (1 : Int32)), .val .null, .val (.int (0 : Int32)), .val (.int (0 : Int32))]) rfl k) ?_
  refine own_step (f' := (mkF m 33 #[.val (.ref a1), .val (.ref a2), .val .null, .val (.int (1 : Int32)), .val .null, .val (.int (0 : Int32)), .val (.int (0 : Int32))] [(.int (0 : Int32))])) (fun _ k => XS.iload X1.here hx rfl (hb hby d17_31) rfl k) ?_
  refine own_step (f' := (mkF m 35 #[.val (.ref a1), .val (.ref a2), .val .null, .val (.int (1 : Int32)), .val .null, .val (.int (0 : Int32)), .val (.int (0 : Int32))] [(.int (16 : Int32)), (.int (0 : Int32))])) (fun _ k => XS.bipush X1.here hx rfl (hb hby d17_33) k) ?_
  refine own_step (f' := (mkF m 38 #[.val (.ref a1), .val (.ref a2), .val .null, .val (.int (1 : Int32)), .val .null, .val (.int (0 : Int32)), .val (.int (0 : Int32))] [])) (fun _ k => XS.icmpNo X1.here hx rfl (hb hby d17_35) rfl (tlt (by decide : ((0 : Int32) < (16 : Int32)))).2.1 k) ?_
  refine own_step (f' := (mkF m 40 #[.val (.ref a1), .val (.ref a2), .val .null, .val (.int (1 : Int32)), .val .null, .val (.int (0 : Int32)), .val (.int (0 : Int32))] [.null])) (fun _ k => XS.aload X1.here hx rfl (hb hby d17_38) rfl rfl k) ?_
  refine own_step (f' := (mkF m 43 #[.val (.ref a1), .val (.ref a2), .val .null, .val (.int (1 : Int32)), .val .null, .val (.int (0 : Int32)), .val (.int (0 : Int32))] [])) (fun _ k => XS.ifnonnullNo X1.here hx rfl (hb hby d17_40) rfl k) ?_
  refine own_step (f' := (mkF m 44 #[.val (.ref a1), .val (.ref a2), .val .null, .val (.int (1 : Int32)), .val .null, .val (.int (0 : Int32)), .val (.int (0 : Int32))] [(.ref a1)])) (fun _ k => XS.aloadN X1.here hx rfl (hb hby d17_43) rfl rfl k) ?_
  obtain ⟨T2, X2, e2, st2⟩ := getF X1 hx hZ hown (host := "") (Or.inl (own_w67 hw)) Via.refl e1 F_kept_a1 (g := (mkF m 44 #[.val (.ref a1), .val (.ref a2), .val .null, .val (.int (1 : Int32)), .val .null, .val (.int (0 : Int32)), .val (.int (0 : Int32))] [(.ref a1)])) rfl rfl (hb hby d17_44)
  refine own_step (f' := (mkF m 47 #[.val (.ref a1), .val (.ref a2), .val .null, .val (.int (1 : Int32)), .val .null, .val (.int (0 : Int32)), .val (.int (0 : Int32))] [(.ref ka)])) st2 ?_
  refine own_step (f' := (mkF m 49 #[.val (.ref a1), .val (.ref a2), .val .null, .val (.int (1 : Int32)), .val .null, .val (.int (0 : Int32)), .val (.int (0 : Int32))] [(.int (0 : Int32)), (.ref ka)])) (fun _ k => XS.iload X2.here hx rfl (hb hby d17_47) rfl k) ?_
  obtain ⟨cl3, Ar3, qa3, Sa3, Na3, Ha3, Ga3⟩ := id (V_ka)
  have hin4 : ¬ ((0 : Int32) < 0 ∨ cl3.slots.size ≤ ((0 : Int32)).toNatClampNeg) := inb_of Sa3 ⟨by decide, by decide⟩
  refine own_step (f' := (mkF m 50 #[.val (.ref a1), .val (.ref a2), .val .null, .val (.int (1 : Int32)), .val .null, .val (.int (0 : Int32)), .val (.int (0 : Int32))] [(.ref cg)])) (fun _ k => X2.aaload hx (j := (0 : Int32)) (v := (.ref cg)) (by rw [e2]; exact Ar3.1) (State.isArrayOf_alike hZ.alike Ar3.2.1) rfl Ar3.2.2 hin4 (Ha3.at hin4 rfl) (g := (mkF m 49 #[.val (.ref a1), .val (.ref a2), .val .null, .val (.int (1 : Int32)), .val .null, .val (.int (0 : Int32)), .val (.int (0 : Int32))] [(.int (0 : Int32)), (.ref ka)])) rfl rfl (hb hby d17_49) _ k) ?_
  refine own_step (f' := (mkF m 53 #[.val (.ref a1), .val (.ref a2), .val .null, .val (.int (1 : Int32)), .val .null, .val (.int (0 : Int32)), .val (.int (0 : Int32))] [])) (fun _ k => XS.ifnullNo X2.here hx rfl (hb hby d17_50) rfl k) ?_
  refine own_step (f' := (mkF m 54 #[.val (.ref a1), .val (.ref a2), .val .null, .val (.int (1 : Int32)), .val .null, .val (.int (0 : Int32)), .val (.int (0 : Int32))] [(.ref a1)])) (fun _ k => XS.aloadN X2.here hx rfl (hb hby d17_53) rfl rfl k) ?_
  obtain ⟨T5, X5, e5, st5⟩ := getF X2 hx hZ hown (host := "") (Or.inl (own_w67 hw)) Via.refl e2 F_kept_a1 (g := (mkF m 54 #[.val (.ref a1), .val (.ref a2), .val .null, .val (.int (1 : Int32)), .val .null, .val (.int (0 : Int32)), .val (.int (0 : Int32))] [(.ref a1)])) rfl rfl (hb hby d17_54)
  refine own_step (f' := (mkF m 57 #[.val (.ref a1), .val (.ref a2), .val .null, .val (.int (1 : Int32)), .val .null, .val (.int (0 : Int32)), .val (.int (0 : Int32))] [(.ref ka)])) st5 ?_
  refine own_step (f' := (mkF m 59 #[.val (.ref a1), .val (.ref a2), .val .null, .val (.int (1 : Int32)), .val .null, .val (.int (0 : Int32)), .val (.int (0 : Int32))] [(.int (0 : Int32)), (.ref ka)])) (fun _ k => XS.iload X5.here hx rfl (hb hby d17_57) rfl k) ?_
  obtain ⟨cl6, Ar6, qa6, Sa6, Na6, Ha6, Ga6⟩ := id (V_ka)
  have hin7 : ¬ ((0 : Int32) < 0 ∨ cl6.slots.size ≤ ((0 : Int32)).toNatClampNeg) := inb_of Sa6 ⟨by decide, by decide⟩
  refine own_step (f' := (mkF m 60 #[.val (.ref a1), .val (.ref a2), .val .null, .val (.int (1 : Int32)), .val .null, .val (.int (0 : Int32)), .val (.int (0 : Int32))] [(.ref cg)])) (fun _ k => X5.aaload hx (j := (0 : Int32)) (v := (.ref cg)) (by rw [e5]; exact Ar6.1) (State.isArrayOf_alike hZ.alike Ar6.2.1) rfl Ar6.2.2 hin7 (Ha6.at hin7 rfl) (g := (mkF m 59 #[.val (.ref a1), .val (.ref a2), .val .null, .val (.int (1 : Int32)), .val .null, .val (.int (0 : Int32)), .val (.int (0 : Int32))] [(.int (0 : Int32)), (.ref ka)])) rfl rfl (hb hby d17_59) _ k) ?_
  refine own_step (f' := (mkF m 61 #[.val (.ref a1), .val (.ref a2), .val .null, .val (.int (1 : Int32)), .val .null, .val (.int (0 : Int32)), .val (.int (0 : Int32))] [(.ref a2), (.ref cg)])) (fun _ k => XS.aloadN X5.here hx rfl (hb hby d17_60) rfl rfl k) ?_
  refine own_step (f' := (mkF m 62 #[.val (.ref a1), .val (.ref a2), .val .null, .val (.int (1 : Int32)), .val .null, .val (.int (0 : Int32)), .val (.int (0 : Int32))] [.null, (.ref a2), (.ref cg)])) (fun _ k => XS.aloadN X5.here hx rfl (hb hby d17_61) rfl rfl k) ?_
  refine own_step (f' := (mkF m 63 #[.val (.ref a1), .val (.ref a2), .val .null, .val (.int (1 : Int32)), .val .null, .val (.int (0 : Int32)), .val (.int (0 : Int32))] [(.int (1 : Int32)), .null, (.ref a2), (.ref cg)])) (fun _ k => XS.iloadN X5.here hx rfl (hb hby d17_62) rfl k) ?_
  refine own_step (f' := (mkF m 65 #[.val (.ref a1), .val (.ref a2), .val .null, .val (.int (1 : Int32)), .val .null, .val (.int (0 : Int32)), .val (.int (0 : Int32))] [(.int (0 : Int32)), (.int (1 : Int32)), .null, (.ref a2), (.ref cg)])) (fun _ k => XS.iload X5.here hx rfl (hb hby d17_63) rfl k) ?_
  have Zq8 : n0 ≤ h0.size := Z0
  obtain ⟨cq8, q8, q8'⟩ := E_cg.cell
  obtain ⟨_, ⟨T8, L8, k8, n8⟩, X8, ⟨Lc8, hQ8, l8, y8, z8⟩, st8⟩ := own_privR X5 hx hZ (y := (⟨own_CO, "codes", "(Lcom/example/valbonne/valbonne/codec/StreamInput;Lcom/example/valbonne/valbonne/codec/DeclaredAttributes;ZI)Z"⟩ : MethodName)) hown (own_w202 hw) (mvT hZ (own_w203 hw)) (own_selPriv (y' := (⟨own_CO, "size", "()I"⟩ : MethodName)) (mvT hZ (own_w225 hw)) rfl (Cond.privateMethod_at (mvP hZ (own_w204 hw) (args := #[]))) (mvT hZ (own_w203 hw)) (by decide)) (Cond.privateMethod_at (mvP hZ (own_w204 hw) (args := #[]))) (mvT hZ (own_w205 hw)) (by decide) (backOf (W := 0) (rm24n l Z a0 hw [] cg a2 h0 n0 Zq8 F_known_cg) hZ (own_w205 hw) (own_w148 hw) (by decide) (by decide)) (g := (mkF m 65 #[.val (.ref a1), .val (.ref a2), .val .null, .val (.int (1 : Int32)), .val .null, .val (.int (0 : Int32)), .val (.int (0 : Int32))] [(.int (0 : Int32)), (.int (1 : Int32)), .null, (.ref a2), (.ref cg)])) rfl (by rw [hml]; rfl) (Steps.refl _) (a := cg) (by rw [e5]; exact q8) q8' (argsL := [(.ref a2), .null, (.int (1 : Int32)), (.int (0 : Int32))]) (rest := []) (lenOf pd_14 rfl) rfl (by show 2 * 0 + _ ≤ _; exact Nat.le_of_eq rfl) (hb hby d17_65) ⟨rfl, e5, (by decide : 0 + 0 ≤ _), (by decide : 0 + 0 ≤ _)⟩
  dsimp only [Pt.U, Pt.locs, Pt.cells, Pt.slots] at X8 l8 y8 z8 st8 hQ8
  subst l8 y8 z8
  obtain ⟨rfl, rfl, e8⟩ := hQ8
  try rw [List.append_nil] at X8
  refine own_jump (f' := (mkF m 68 #[.val (.ref a1), .val (.ref a2), .val .null, .val (.int (1 : Int32)), .val .null, .val (.int (0 : Int32)), .val (.int (0 : Int32))] [(.int (0 : Int32))])) st8 ?_
  refine own_step (f' := (mkF m 80 #[.val (.ref a1), .val (.ref a2), .val .null, .val (.int (1 : Int32)), .val .null, .val (.int (0 : Int32)), .val (.int (0 : Int32))] [])) (fun _ k => XS.ifYes X8.here hx rfl (pc0 := 68) (pc' := 80) rfl (hb hby d17_68) rfl ((if0 _ _).trans (teq (by decide : ((0 : Int32) = (0 : Int32)))).1) (by decide) (by decide) k) ?_
  refine own_step (f' := (mkF m 83 #[.val (.ref a1), .val (.ref a2), .val .null, .val (.int (1 : Int32)), .val .null, .val (.int (0 : Int32)), .val (.int (1 : Int32))] [])) (fun _ k => XS.iinc X8.here hx rfl (hb hby d17_80) rfl (l' := #[.val (.ref a1), .val (.ref a2), .val .null, .val (.int (1 : Int32)), .val .null, .val (.int (0 : Int32)), .val (.int (1 : Int32))]) rfl k) ?_
  refine own_step (f' := (mkF m 31 #[.val (.ref a1), .val (.ref a2), .val .null, .val (.int (1 : Int32)), .val .null, .val (.int (0 : Int32)), .val (.int (1 : Int32))] [])) (fun _ k => XS.goto X8.here hx rfl (pc0 := 83) (pc' := 31) rfl (hb hby d17_83) (by decide) (by decide) k) ?_
  have LP31 : ∀ (n : Nat) (T_31 : State) (i : Int32), Stand p l e R17d s m #[(.ref a1), (.ref a2), .null, (.int (1 : Int32))] below meth c T_31 [] 0 0 → T_31.heap = h0 → (∃ j, i = Int32.ofNat j ∧ j + n = 16 ∧ 1 ≤ j) → own_Goes p e below s (Q17d Z a1 a2 ka kk cg h0 n0) R17d.cells R17d.slots T_31 (mkF m 31 #[.val (.ref a1), .val (.ref a2), .val .null, .val (.int (1 : Int32)), .val .null, .val (.int (0 : Int32)), .val (.int i)] []) := by
    intro n
    induction n using Nat.strongRecOn with
    | _ n ih =>
      intro T_31 i X_31 e_31 hI
      refine own_step (f' := (mkF m 33 #[.val (.ref a1), .val (.ref a2), .val .null, .val (.int (1 : Int32)), .val .null, .val (.int (0 : Int32)), .val (.int i)] [(.int i)])) (fun _ k => XS.iload X_31.here hx rfl (hb hby d17_31) rfl k) ?_
      refine own_step (f' := (mkF m 35 #[.val (.ref a1), .val (.ref a2), .val .null, .val (.int (1 : Int32)), .val .null, .val (.int (0 : Int32)), .val (.int i)] [(.int (16 : Int32)), (.int i)])) (fun _ k => XS.bipush X_31.here hx rfl (hb hby d17_33) k) ?_
      by_cases hc35_9 : i < (16 : Int32)
      · refine own_step (f' := (mkF m 38 #[.val (.ref a1), .val (.ref a2), .val .null, .val (.int (1 : Int32)), .val .null, .val (.int (0 : Int32)), .val (.int i)] [])) (fun _ k => XS.icmpNo X_31.here hx rfl (hb hby d17_35) rfl (tlt hc35_9).2.1 k) ?_
        refine own_step (f' := (mkF m 40 #[.val (.ref a1), .val (.ref a2), .val .null, .val (.int (1 : Int32)), .val .null, .val (.int (0 : Int32)), .val (.int i)] [.null])) (fun _ k => XS.aload X_31.here hx rfl (hb hby d17_38) rfl rfl k) ?_
        refine own_step (f' := (mkF m 43 #[.val (.ref a1), .val (.ref a2), .val .null, .val (.int (1 : Int32)), .val .null, .val (.int (0 : Int32)), .val (.int i)] [])) (fun _ k => XS.ifnonnullNo X_31.here hx rfl (hb hby d17_40) rfl k) ?_
        refine own_step (f' := (mkF m 44 #[.val (.ref a1), .val (.ref a2), .val .null, .val (.int (1 : Int32)), .val .null, .val (.int (0 : Int32)), .val (.int i)] [(.ref a1)])) (fun _ k => XS.aloadN X_31.here hx rfl (hb hby d17_43) rfl rfl k) ?_
        obtain ⟨T10, X10, e10, st10⟩ := getF X_31 hx hZ hown (host := "") (Or.inl (own_w67 hw)) Via.refl e_31 F_kept_a1 (g := (mkF m 44 #[.val (.ref a1), .val (.ref a2), .val .null, .val (.int (1 : Int32)), .val .null, .val (.int (0 : Int32)), .val (.int i)] [(.ref a1)])) rfl rfl (hb hby d17_44)
        refine own_step (f' := (mkF m 47 #[.val (.ref a1), .val (.ref a2), .val .null, .val (.int (1 : Int32)), .val .null, .val (.int (0 : Int32)), .val (.int i)] [(.ref ka)])) st10 ?_
        refine own_step (f' := (mkF m 49 #[.val (.ref a1), .val (.ref a2), .val .null, .val (.int (1 : Int32)), .val .null, .val (.int (0 : Int32)), .val (.int i)] [(.int i), (.ref ka)])) (fun _ k => XS.iload X10.here hx rfl (hb hby d17_47) rfl k) ?_
        obtain ⟨cl11, Ar11, qa11, Sa11, Na11, Ha11, Ga11⟩ := id (V_ka)
        have hin12 : ¬ (i < 0 ∨ cl11.slots.size ≤ (i).toNatClampNeg) := inb_of Sa11 ⟨(own_l1 hI hc35_9).1, hc35_9⟩
        refine own_step (f' := (mkF m 50 #[.val (.ref a1), .val (.ref a2), .val .null, .val (.int (1 : Int32)), .val .null, .val (.int (0 : Int32)), .val (.int i)] [.null])) (fun _ k => X10.aaload hx (j := i) (v := .null) (by rw [e10]; exact Ar11.1) (State.isArrayOf_alike hZ.alike Ar11.2.1) rfl Ar11.2.2 hin12 (Ha11.at hin12 (own_nul _ _ (own_l1 hI hc35_9).2.1)) (g := (mkF m 49 #[.val (.ref a1), .val (.ref a2), .val .null, .val (.int (1 : Int32)), .val .null, .val (.int (0 : Int32)), .val (.int i)] [(.int i), (.ref ka)])) rfl rfl (hb hby d17_49) _ k) ?_
        refine own_step (f' := (mkF m 80 #[.val (.ref a1), .val (.ref a2), .val .null, .val (.int (1 : Int32)), .val .null, .val (.int (0 : Int32)), .val (.int i)] [])) (fun _ k => XS.ifnullYes X10.here hx rfl (pc0 := 50) (pc' := 80) rfl (hb hby d17_50) rfl (by decide) (by decide) k) ?_
        refine own_step (f' := (mkF m 83 #[.val (.ref a1), .val (.ref a2), .val .null, .val (.int (1 : Int32)), .val .null, .val (.int (0 : Int32)), .val (.int (i + (1 : Int32)))] [])) (fun _ k => XS.iinc X10.here hx rfl (hb hby d17_80) rfl (l' := #[.val (.ref a1), .val (.ref a2), .val .null, .val (.int (1 : Int32)), .val .null, .val (.int (0 : Int32)), .val (.int (i + (1 : Int32)))]) rfl k) ?_
        refine own_step (f' := (mkF m 31 #[.val (.ref a1), .val (.ref a2), .val .null, .val (.int (1 : Int32)), .val .null, .val (.int (0 : Int32)), .val (.int (i + (1 : Int32)))] [])) (fun _ k => XS.goto X10.here hx rfl (pc0 := 83) (pc' := 31) rfl (hb hby d17_83) (by decide) (by decide) k) ?_
        exact ih (n - 1) ((own_l1 hI hc35_9).2.2.1) _ (i + (1 : Int32)) X10 e10 ((own_l1 hI hc35_9).2.2.2)
      · refine own_step (f' := (mkF m 86 #[.val (.ref a1), .val (.ref a2), .val .null, .val (.int (1 : Int32)), .val .null, .val (.int (0 : Int32)), .val (.int i)] [])) (fun _ k => XS.icmpYes X_31.here hx rfl (pc0 := 35) (pc' := 86) rfl (hb hby d17_35) rfl (flt hc35_9).2.1 (by decide) (by decide) k) ?_
        refine own_step (f' := (mkF m 88 #[.val (.ref a1), .val (.ref a2), .val .null, .val (.int (1 : Int32)), .val .null, .val (.int (0 : Int32)), .val (.int i)] [.null])) (fun _ k => XS.aload X_31.here hx rfl (hb hby d17_86) rfl rfl k) ?_
        refine own_step (f' := (mkF m 109 #[.val (.ref a1), .val (.ref a2), .val .null, .val (.int (1 : Int32)), .val .null, .val (.int (0 : Int32)), .val (.int i)] [])) (fun _ k => XS.ifnullYes X_31.here hx rfl (pc0 := 88) (pc' := 109) rfl (hb hby d17_88) rfl (by decide) (by decide) k) ?_
        refine own_step (f' := (mkF m 111 #[.val (.ref a1), .val (.ref a2), .val .null, .val (.int (1 : Int32)), .val .null, .val (.int (0 : Int32)), .val (.int i)] [.null])) (fun _ k => XS.aload X_31.here hx rfl (hb hby d17_109) rfl rfl k) ?_
        refine own_out (v := some .null) X_31 hlk (fun h => by rw [Bd.returns] at h; cases h) (fun fs hr => retOut X_31 hx Bd.returns rfl (Or.inr (Or.inr (Or.inr (Or.inr ⟨rfl, rfl, rfl⟩)))) (hb hby d17_111) hr) (by decide) (by decide) ?_
        rw [e_31]
        exact ⟨rfl, rfl, rfl⟩
  exact LP31 (15) _ (1 : Int32) X8 e8 (⟨1, rfl, rfl, Nat.le_refl _⟩)
theorem own_w212 {a0 Z} (hw : own_HW a0 Z) : (Cond.methodLink "com/example/valbonne/valbonne/codec/AttributeCodings" (38 : Nat) ⟨"com/example/valbonne/valbonne/codec/StreamInput", "skip", "(I)V"⟩).before a0 Z = true := own_at hw 212 rfl
theorem own_w216 {a0 Z} (hw : own_HW a0 Z) : (Cond.code ⟨"com/example/valbonne/valbonne/codec/StreamInput", "skip", "(I)V"⟩ prog_83_method_14_code (2 : Nat) none).before a0 Z = true := own_at hw 216 rfl
theorem pd_15 : parseMethodDescriptor "(I)V" = some ⟨[.int], none⟩ := by decide +kernel
theorem own_w215 {a0 Z} (hw : own_HW a0 Z) : (Cond.selects "com/example/valbonne/valbonne/codec/StreamInput" ⟨"com/example/valbonne/valbonne/codec/StreamInput", "skip", "(I)V"⟩ ⟨"com/example/valbonne/valbonne/codec/StreamInput", "skip", "(I)V"⟩).before a0 Z = true := own_at hw 215 rfl
theorem own_w213 {a0 Z} (hw : own_HW a0 Z) : (Cond.declares ⟨"com/example/valbonne/valbonne/codec/StreamInput", "skip", "(I)V"⟩).before a0 Z = true := own_at hw 213 rfl
theorem own_w214 {a0 Z} (hw : own_HW a0 Z) : (Cond.instanceMethod ⟨"com/example/valbonne/valbonne/codec/StreamInput", "skip", "(I)V"⟩).before a0 Z = true := own_at hw 214 rfl
theorem own_w217 {a0 Z} (hw : own_HW a0 Z) : (Cond.methodLink "com/example/valbonne/valbonne/codec/AttributeCodings" (45 : Nat) ⟨"com/example/valbonne/valbonne/codec/StreamInput", "switchAttributePage", "(I)V"⟩).before a0 Z = true := own_at hw 217 rfl
theorem own_w221 {a0 Z} (hw : own_HW a0 Z) : (Cond.code ⟨"com/example/valbonne/valbonne/codec/StreamInput", "switchAttributePage", "(I)V"⟩ prog_83_method_12_code (2 : Nat) none).before a0 Z = true := own_at hw 221 rfl
theorem own_w220 {a0 Z} (hw : own_HW a0 Z) : (Cond.selects "com/example/valbonne/valbonne/codec/StreamInput" ⟨"com/example/valbonne/valbonne/codec/StreamInput", "switchAttributePage", "(I)V"⟩ ⟨"com/example/valbonne/valbonne/codec/StreamInput", "switchAttributePage", "(I)V"⟩).before a0 Z = true := own_at hw 220 rfl
theorem own_w218 {a0 Z} (hw : own_HW a0 Z) : (Cond.declares ⟨"com/example/valbonne/valbonne/codec/StreamInput", "switchAttributePage", "(I)V"⟩).before a0 Z = true := own_at hw 218 rfl
theorem own_w219 {a0 Z} (hw : own_HW a0 Z) : (Cond.instanceMethod ⟨"com/example/valbonne/valbonne/codec/StreamInput", "switchAttributePage", "(I)V"⟩).before a0 Z = true := own_at hw 219 rfl
theorem d17_71 : decode prog_11_method_2_code 71 = .ok (.aload_n 0, 1) := by decide +kernel
theorem d17_72 : decode prog_11_method_2_code 72 = .ok (.getfield 11, 3) := by decide +kernel
theorem d17_75 : decode prog_11_method_2_code 75 = .ok (.iload 6, 2) := by decide +kernel
theorem d17_77 : decode prog_11_method_2_code 77 = .ok (.aaload, 1) := by decide +kernel
theorem d17_78 : decode prog_11_method_2_code 78 = .ok (.astore 4, 2) := by decide +kernel
theorem d17_91 : decode prog_11_method_2_code 91 = .ok (.aload_n 1, 1) := by decide +kernel
theorem d17_92 : decode prog_11_method_2_code 92 = .ok (.aload 4, 2) := by decide +kernel
theorem d17_94 : decode prog_11_method_2_code 94 = .ok (.getfield 34, 3) := by decide +kernel
theorem d17_97 : decode prog_11_method_2_code 97 = .ok (.invokevirtual 38, 3) := by decide +kernel
theorem d17_100 : decode prog_11_method_2_code 100 = .ok (.aload_n 1, 1) := by decide +kernel
theorem d17_101 : decode prog_11_method_2_code 101 = .ok (.aload 4, 2) := by decide +kernel
theorem d17_103 : decode prog_11_method_2_code 103 = .ok (.getfield 42, 3) := by decide +kernel
theorem d17_106 : decode prog_11_method_2_code 106 = .ok (.invokevirtual 45, 3) := by decide +kernel
theorem ef_17y (m : MethodId) (x0 : Addr) (x1 : Addr) (x3 : Int32) : entryFrame m #[(.ref x0), (.ref x1), .null, (.int x3)] 7 = mkF m 0 #[.val (.ref x0), .val (.ref x1), .val .null, .val (.int x3), .unset, .unset, .unset] [] := by first | (simp [entryFrame, mkF, argsToLocals, Value.category]; done) | rfl
def Q17y (Z : State) (a1 : Addr) (a2 : Addr) (ka : Addr) (kk : ClassId) (cg : Addr) (bb : Addr) (h0 : Heap) (n0 : Nat) (v : Option Value) (h : Heap) (L : List Loc) : Prop := v = some (.ref cg) ∧ Fr n0 L ∧ Keep h0 h [a2]
abbrev R17y : Room := { frames := 2, cells := 0, slots := 0, locals := 32 }
set_option maxRecDepth 65536 in
set_option maxHeartbeats 40000000 in
theorem rm17y (l : Launch) (Z : State) (a0 : Array Value) (hw : ∀ d ∈ tables_1, d.before a0 Z = true) (ws : List Jvm.Cond) (a1 : Addr) (a2 : Addr) (ka : Addr) (kk : ClassId) (cg : Addr) (bb : Addr) (h0 : Heap) (n0 : Nat) (Z0 : n0 ≤ h0.size) (F_kept_a1 : Fld Z h0 a1 own_AC "kept" "[Lcom/example/valbonne/valbonne/codec/AttributeCodings$Coding;" (.ref ka)) (E_a2 : Exa Z h0 a2 own_SI) (F_attributePage_a2 : Fld Z h0 a2 own_SI "attributePage" "I" (.int (0 : Int32))) (V_ka : Arv Z h0 ka kk (.object own_CO) (16 : Int32) [(.ref cg), .null, .null, .null, .null, .null, .null, .null, .null, .null, .null, .null, .null, .null, .null, .null] .null) (E_cg : Exa Z h0 cg own_CO) (g_a2 : n0 ≤ a2) (ne_cg_a2 : cg ≠ a2) (F_declared_cg : Fld Z h0 cg own_CO "declared" "Lcom/example/valbonne/valbonne/codec/DeclaredAttributes;" .null) (F_loose_cg : Fld Z h0 cg own_CO "loose" "Z" (.int (1 : Int32))) (F_page_cg : Fld Z h0 cg own_CO "page" "I" (.int (0 : Int32))) (F_bytes_cg : Fld Z h0 cg own_CO "bytes" "[B" (.ref bb)) (F_length_cg : Fld Z h0 cg own_CO "length" "I" (.int (0 : Int32))) (F_known_cg : Fld Z h0 cg own_CO "known" "Z" (.int (1 : Int32))) (F_endPage_cg : Fld Z h0 cg own_CO "endPage" "I" (.int (0 : Int32))) (F_limit_a2 : Fld Z h0 a2 own_SI "limit" "I" (.int (0 : Int32))) (F_pos_a2 : Fld Z h0 a2 own_SI "pos" "I" (.int (0 : Int32))) :
    MetFree l (⟨own_AC, "readKnown", "(Lcom/example/valbonne/valbonne/codec/StreamInput;Lcom/example/valbonne/valbonne/codec/DeclaredAttributes;Z)Lcom/example/valbonne/valbonne/codec/AttributeCodings$Coding;"⟩ : MethodName) (head1 (Jvm.Cond.code (⟨own_AC, "readKnown", "(Lcom/example/valbonne/valbonne/codec/StreamInput;Lcom/example/valbonne/valbonne/codec/DeclaredAttributes;Z)Lcom/example/valbonne/valbonne/codec/AttributeCodings$Coding;"⟩ : MethodName) prog_11_method_2_code 7 (some (.object own_CO)) :: ws) R17y) (fun a U => a = #[(.ref a1), (.ref a2), .null, (.int (1 : Int32))] ∧ Z.Warmed39 U.vm ∧ U.heap = h0) (fun _ _ _ _ _ => True) (fun _ U o U' => ∃ v L, o = .returned v ∧ Q17y Z a1 a2 ka kk cg bb h0 n0 v U'.heap L ∧ FrameEnd U o U' L R17y.cells R17y.slots) := by
  refine MetFree.of_bodySF (plainFor_of_name pn_4) hisR ?_
  intro p e s m args below meth c s₁ Bd hml0 hP hK
  obtain ⟨rfl, hZ, hh⟩ := hP
  have hx := Bd.exec
  have hby := Bd.bytes
  have hlk : meth.locks = false := BodyLoose.notSynchronized Bd
  have hml : c.maxLocals = 7 := hml0
  have hown : s.vm.findClass own_AC = some m.cls := findClass_of_methodNamed Bd.named
  have hnm := (name_of_methodNamed Bd.named Bd.method).1
  have X0 : Stand p l e R17y s m #[(.ref a1), (.ref a2), .null, (.int (1 : Int32))] below meth c s₁ [] 0 0 := Stand.of_body Bd
  have e0 : s₁.heap = h0 := by rw [← hh, Bd.state]; rfl
  have N0 := Fr.nil n0
  show own_Goes p e below s (Q17y Z a1 a2 ka kk cg bb h0 n0) R17y.cells R17y.slots s₁ (entryFrame m #[(.ref a1), (.ref a2), .null, (.int (1 : Int32))] 7)
  rw [ef_17y m a1 a2 (1 : Int32)]
  refine own_step (f' := (mkF m 1 #[.val (.ref a1), .val (.ref a2), .val .null, .val (.int (1 : Int32)), .unset, .unset, .unset] [.null])) (fun _ k => XS.aconstNull X0.here hx rfl (hb hby d17_0) k) ?_
  refine own_step (f' := (mkF m 3 #[.val (.ref a1), .val (.ref a2), .val .null, .val (.int (1 : Int32)), .val .null, .unset, .unset] [])) (fun _ k => XS.astore X0.here hx rfl (hb hby d17_1) rfl rfl (l' := #[.val (.ref a1), .val (.ref a2), .val .null, .val (.int (1 : Int32)), .val .null, .unset, .unset]) rfl k) ?_
  refine own_step (f' := (mkF m 4 #[.val (.ref a1), .val (.ref a2), .val .null, .val (.int (1 : Int32)), .val .null, .unset, .unset] [(.int (1 : Int32))])) (fun _ k => XS.iloadN X0.here hx rfl (hb hby d17_3) rfl k) ?_
  refine own_step (f' := (mkF m 22 #[.val (.ref a1), .val (.ref a2), .val .null, .val (.int (1 : Int32)), .val .null, .unset, .unset] [])) (fun _ k => XS.ifYes X0.here hx rfl (pc0 := 4) (pc' := 22) rfl (hb hby d17_4) rfl ((if0 _ _).trans (feq (by decide : ¬ ((1 : Int32) = (0 : Int32)))).2) (by decide) (by decide) k) ?_
  refine own_step (f' := (mkF m 23 #[.val (.ref a1), .val (.ref a2), .val .null, .val (.int (1 : Int32)), .val .null, .unset, .unset] [(.ref a2)])) (fun _ k => XS.aloadN X0.here hx rfl (hb hby d17_22) rfl rfl k) ?_
  have Zq1 : n0 ≤ h0.size := Z0
  obtain ⟨cq1, kq1, q1a, q1b, q1c⟩ := isOf hZ e0 E_a2
  obtain ⟨_, _, ⟨T1, L1, k1, n1⟩, -, X1, ⟨Lc1, hQ1, l1, y1, z1⟩, st1⟩ := X0.virtualBack hx (y := (⟨own_SI, "attributePage", "()I"⟩ : MethodName)) (z := (⟨own_SI, "attributePage", "()I"⟩ : MethodName)) hown (mvT hZ (own_w133 hw)) (mvT hZ (own_w134 hw)) (notFace_of_selects (args := #[]) (mvT hZ (own_w136 hw))) (mvT hZ (own_w136 hw)) (mvT hZ (own_w135 hw)) (by decide) (backOf (W := 0) (rm18 l Z a0 hw [] a2 h0 n0 Zq1 F_attributePage_a2) hZ (own_w137 hw) (own_w71 hw) (by decide) (by decide)) q1a q1c (g := (mkF m 23 #[.val (.ref a1), .val (.ref a2), .val .null, .val (.int (1 : Int32)), .val .null, .unset, .unset] [(.ref a2)])) rfl (by rw [hml]; rfl) (Steps.refl _) (argsL := []) (rest := []) (lenOf pd_8 rfl) rfl (by show 2 * 0 + _ ≤ _; exact Nat.le_of_eq rfl) (hb hby d17_23) (fun _ _ => ⟨rfl, e0, (by decide : 0 + 0 ≤ _), (by decide : 0 + 0 ≤ _)⟩)
  dsimp only [Pt.U, Pt.locs, Pt.cells, Pt.slots] at X1 l1 y1 z1 st1 hQ1
  subst l1 y1 z1
  obtain ⟨rfl, rfl, e1⟩ := hQ1
  try rw [List.append_nil] at X1
  refine own_jump (f' := (mkF m 26 #[.val (.ref a1), .val (.ref a2), .val .null, .val (.int (1 : Int32)), .val .null, .unset, .unset] [(.int (0 : Int32))])) st1 ?_
  refine own_step (f' := (mkF m 28 #[.val (.ref a1), .val (.ref a2), .val .null, .val (.int (1 : Int32)), .val .null, .val (.int (0 : Int32)), .unset] [])) (fun _ k => XS.istore X1.here hx rfl (hb hby d17_26) rfl (l' := #[.val (.ref a1), .val (.ref a2), .val .null, .val (.int (1 : Int32)), .val .null, .val (.int (0 : Int32)), .unset]) rfl k) ?_
  refine own_step (f' := (mkF m 29 #[.val (.ref a1), .val (.ref a2), .val .null, .val (.int (1 : Int32)), .val .null, .val (.int (0 : Int32)), .unset] [(.int (0 : Int32))])) (fun _ k => XS.iconst X1.here hx rfl (hb hby d17_28) k) ?_
  refine own_step (f' := (mkF m 31 #[.val (.ref a1), .val (.ref a2), .val .null, .val (.int (1 : Int32)), .val .null, .val (.int (0 : Int32)), .val (.int (0 : Int32))] [])) (fun _ k => XS.istore X1.here hx rfl (hb hby d17_29) rfl (l' := #[.val (.ref a1), .val (.ref a2), .val .null, .val (.int (1 : Int32)), .val .null, .val (.int (0 : Int32)), .val (.int (0 : Int32))]) rfl k) ?_
  refine own_step (f' := (mkF m 33 #[.val (.ref a1), .val (.ref a2), .val .null, .val (.int (1 : Int32)), .val .null, .val (.int (0 : Int32)), .val (.int (0 : Int32))] [(.int (0 : Int32))])) (fun _ k => XS.iload X1.here hx rfl (hb hby d17_31) rfl k) ?_
  refine own_step (f' := (mkF m 35 #[.val (.ref a1), .val (.ref a2), .val .null, .val (.int (1 : Int32)), .val .null, .val (.int (0 : Int32)), .val (.int (0 : Int32))] [(.int (16 : Int32)), (.int (0 : Int32))])) (fun _ k => XS.bipush X1.here hx rfl (hb hby d17_33) k) ?_
  refine own_step (f' := (mkF m 38 #[.val (.ref a1), .val (.ref a2), .val .null, .val (.int (1 : Int32)), .val .null, .val (.int (0 : Int32)), .val (.int (0 : Int32))] [])) (fun _ k => XS.icmpNo X1.here hx rfl (hb hby d17_35) rfl (tlt (by decide : ((0 : Int32) < (16 : Int32)))).2.1 k) ?_
  refine own_step (f' := (mkF m 40 #[.val (.ref a1), .val (.ref a2), .val .null, .val (.int (1 : Int32)), .val .null, .val (.int (0 : Int32)), .val (.int (0 : Int32))] [.null])) (fun _ k => XS.aload X1.here hx rfl (hb hby d17_38) rfl rfl k) ?_
  refine own_step (f' := (mkF m 43 #[.val (.ref a1), .val (.ref a2), .val .null, .val (.int (1 : Int32)), .val .null, .val (.int (0 : Int32)), .val (.int (0 : Int32))] [])) (fun _ k => XS.ifnonnullNo X1.here hx rfl (hb hby d17_40) rfl k) ?_
  refine own_step (f' := (mkF m 44 #[.val (.ref a1), .val (.ref a2), .val .null, .val (.int (1 : Int32)), .val .null, .val (.int (0 : Int32)), .val (.int (0 : Int32))] [(.ref a1)])) (fun _ k => XS.aloadN X1.here hx rfl (hb hby d17_43) rfl rfl k) ?_
  obtain ⟨T2, X2, e2, st2⟩ := getF X1 hx hZ hown (host := "") (Or.inl (own_w67 hw)) Via.refl e1 F_kept_a1 (g := (mkF m 44 #[.val (.ref a1), .val (.ref a2), .val .null, .val (.int (1 : Int32)), .val .null, .val (.int (0 : Int32)), .val (.int (0 : Int32))] [(.ref a1)])) rfl rfl (hb hby d17_44)
  refine own_step (f' := (mkF m 47 #[.val (.ref a1), .val (.ref a2), .val .null, .val (.int (1 : Int32)), .val .null, .val (.int (0 : Int32)), .val (.int (0 : Int32))] [(.ref ka)])) st2 ?_
  refine own_step (f' := (mkF m 49 #[.val (.ref a1), .val (.ref a2), .val .null, .val (.int (1 : Int32)), .val .null, .val (.int (0 : Int32)), .val (.int (0 : Int32))] [(.int (0 : Int32)), (.ref ka)])) (fun _ k => XS.iload X2.here hx rfl (hb hby d17_47) rfl k) ?_
  obtain ⟨cl3, Ar3, qa3, Sa3, Na3, Ha3, Ga3⟩ := id (V_ka)
  have hin4 : ¬ ((0 : Int32) < 0 ∨ cl3.slots.size ≤ ((0 : Int32)).toNatClampNeg) := inb_of Sa3 ⟨by decide, by decide⟩
  refine own_step (f' := (mkF m 50 #[.val (.ref a1), .val (.ref a2), .val .null, .val (.int (1 : Int32)), .val .null, .val (.int (0 : Int32)), .val (.int (0 : Int32))] [(.ref cg)])) (fun _ k => X2.aaload hx (j := (0 : Int32)) (v := (.ref cg)) (by rw [e2]; exact Ar3.1) (State.isArrayOf_alike hZ.alike Ar3.2.1) rfl Ar3.2.2 hin4 (Ha3.at hin4 rfl) (g := (mkF m 49 #[.val (.ref a1), .val (.ref a2), .val .null, .val (.int (1 : Int32)), .val .null, .val (.int (0 : Int32)), .val (.int (0 : Int32))] [(.int (0 : Int32)), (.ref ka)])) rfl rfl (hb hby d17_49) _ k) ?_
  refine own_step (f' := (mkF m 53 #[.val (.ref a1), .val (.ref a2), .val .null, .val (.int (1 : Int32)), .val .null, .val (.int (0 : Int32)), .val (.int (0 : Int32))] [])) (fun _ k => XS.ifnullNo X2.here hx rfl (hb hby d17_50) rfl k) ?_
  refine own_step (f' := (mkF m 54 #[.val (.ref a1), .val (.ref a2), .val .null, .val (.int (1 : Int32)), .val .null, .val (.int (0 : Int32)), .val (.int (0 : Int32))] [(.ref a1)])) (fun _ k => XS.aloadN X2.here hx rfl (hb hby d17_53) rfl rfl k) ?_
  obtain ⟨T5, X5, e5, st5⟩ := getF X2 hx hZ hown (host := "") (Or.inl (own_w67 hw)) Via.refl e2 F_kept_a1 (g := (mkF m 54 #[.val (.ref a1), .val (.ref a2), .val .null, .val (.int (1 : Int32)), .val .null, .val (.int (0 : Int32)), .val (.int (0 : Int32))] [(.ref a1)])) rfl rfl (hb hby d17_54)
  refine own_step (f' := (mkF m 57 #[.val (.ref a1), .val (.ref a2), .val .null, .val (.int (1 : Int32)), .val .null, .val (.int (0 : Int32)), .val (.int (0 : Int32))] [(.ref ka)])) st5 ?_
  refine own_step (f' := (mkF m 59 #[.val (.ref a1), .val (.ref a2), .val .null, .val (.int (1 : Int32)), .val .null, .val (.int (0 : Int32)), .val (.int (0 : Int32))] [(.int (0 : Int32)), (.ref ka)])) (fun _ k => XS.iload X5.here hx rfl (hb hby d17_57) rfl k) ?_
  obtain ⟨cl6, Ar6, qa6, Sa6, Na6, Ha6, Ga6⟩ := id (V_ka)
  have hin7 : ¬ ((0 : Int32) < 0 ∨ cl6.slots.size ≤ ((0 : Int32)).toNatClampNeg) := inb_of Sa6 ⟨by decide, by decide⟩
  refine own_step (f' := (mkF m 60 #[.val (.ref a1), .val (.ref a2), .val .null, .val (.int (1 : Int32)), .val .null, .val (.int (0 : Int32)), .val (.int (0 : Int32))] [(.ref cg)])) (fun _ k => X5.aaload hx (j := (0 : Int32)) (v := (.ref cg)) (by rw [e5]; exact Ar6.1) (State.isArrayOf_alike hZ.alike Ar6.2.1) rfl Ar6.2.2 hin7 (Ha6.at hin7 rfl) (g := (mkF m 59 #[.val (.ref a1), .val (.ref a2), .val .null, .val (.int (1 : Int32)), .val .null, .val (.int (0 : Int32)), .val (.int (0 : Int32))] [(.int (0 : Int32)), (.ref ka)])) rfl rfl (hb hby d17_59) _ k) ?_
  refine own_step (f' := (mkF m 61 #[.val (.ref a1), .val (.ref a2), .val .null, .val (.int (1 : Int32)), .val .null, .val (.int (0 : Int32)), .val (.int (0 : Int32))] [(.ref a2), (.ref cg)])) (fun _ k => XS.aloadN X5.here hx rfl (hb hby d17_60) rfl rfl k) ?_
  refine own_step (f' := (mkF m 62 #[.val (.ref a1), .val (.ref a2), .val .null, .val (.int (1 : Int32)), .val .null, .val (.int (0 : Int32)), .val (.int (0 : Int32))] [.null, (.ref a2), (.ref cg)])) (fun _ k => XS.aloadN X5.here hx rfl (hb hby d17_61) rfl rfl k) ?_
  refine own_step (f' := (mkF m 63 #[.val (.ref a1), .val (.ref a2), .val .null, .val (.int (1 : Int32)), .val .null, .val (.int (0 : Int32)), .val (.int (0 : Int32))] [(.int (1 : Int32)), .null, (.ref a2), (.ref cg)])) (fun _ k => XS.iloadN X5.here hx rfl (hb hby d17_62) rfl k) ?_
  refine own_step (f' := (mkF m 65 #[.val (.ref a1), .val (.ref a2), .val .null, .val (.int (1 : Int32)), .val .null, .val (.int (0 : Int32)), .val (.int (0 : Int32))] [(.int (0 : Int32)), (.int (1 : Int32)), .null, (.ref a2), (.ref cg)])) (fun _ k => XS.iload X5.here hx rfl (hb hby d17_63) rfl k) ?_
  have Zq8 : n0 ≤ h0.size := Z0
  obtain ⟨cq8, q8, q8'⟩ := E_cg.cell
  obtain ⟨_, ⟨T8, L8, k8, n8⟩, X8, ⟨Lc8, hQ8, l8, y8, z8⟩, st8⟩ := own_privR X5 hx hZ (y := (⟨own_CO, "codes", "(Lcom/example/valbonne/valbonne/codec/StreamInput;Lcom/example/valbonne/valbonne/codec/DeclaredAttributes;ZI)Z"⟩ : MethodName)) hown (own_w202 hw) (mvT hZ (own_w203 hw)) (own_selPriv (y' := (⟨own_CO, "size", "()I"⟩ : MethodName)) (mvT hZ (own_w225 hw)) rfl (Cond.privateMethod_at (mvP hZ (own_w204 hw) (args := #[]))) (mvT hZ (own_w203 hw)) (by decide)) (Cond.privateMethod_at (mvP hZ (own_w204 hw) (args := #[]))) (mvT hZ (own_w205 hw)) (by decide) (backOf (W := 0) (rm24y l Z a0 hw [] cg a2 bb h0 n0 Zq8 F_declared_cg F_loose_cg F_page_cg F_bytes_cg F_length_cg F_known_cg E_a2 F_limit_a2 F_pos_a2) hZ (own_w205 hw) (own_w148 hw) (by decide) (by decide)) (g := (mkF m 65 #[.val (.ref a1), .val (.ref a2), .val .null, .val (.int (1 : Int32)), .val .null, .val (.int (0 : Int32)), .val (.int (0 : Int32))] [(.int (0 : Int32)), (.int (1 : Int32)), .null, (.ref a2), (.ref cg)])) rfl (by rw [hml]; rfl) (Steps.refl _) (a := cg) (by rw [e5]; exact q8) q8' (argsL := [(.ref a2), .null, (.int (1 : Int32)), (.int (0 : Int32))]) (rest := []) (lenOf pd_14 rfl) rfl (by show 2 * 0 + _ ≤ _; exact Nat.le_of_eq rfl) (hb hby d17_65) ⟨rfl, e5, (by decide : 0 + 0 ≤ _), (by decide : 0 + 0 ≤ _)⟩
  dsimp only [Pt.U, Pt.locs, Pt.cells, Pt.slots] at X8 l8 y8 z8 st8 hQ8
  subst l8 y8 z8
  obtain ⟨rfl, rfl, e8⟩ := hQ8
  try rw [List.append_nil] at X8
  refine own_jump (f' := (mkF m 68 #[.val (.ref a1), .val (.ref a2), .val .null, .val (.int (1 : Int32)), .val .null, .val (.int (0 : Int32)), .val (.int (0 : Int32))] [(.int (1 : Int32))])) st8 ?_
  refine own_step (f' := (mkF m 71 #[.val (.ref a1), .val (.ref a2), .val .null, .val (.int (1 : Int32)), .val .null, .val (.int (0 : Int32)), .val (.int (0 : Int32))] [])) (fun _ k => XS.ifNo X8.here hx rfl (hb hby d17_68) rfl ((if0 _ _).trans (feq (by decide : ¬ ((1 : Int32) = (0 : Int32)))).1) k) ?_
  refine own_step (f' := (mkF m 72 #[.val (.ref a1), .val (.ref a2), .val .null, .val (.int (1 : Int32)), .val .null, .val (.int (0 : Int32)), .val (.int (0 : Int32))] [(.ref a1)])) (fun _ k => XS.aloadN X8.here hx rfl (hb hby d17_71) rfl rfl k) ?_
  obtain ⟨T9, X9, e9, st9⟩ := getF X8 hx hZ hown (host := "") (Or.inl (own_w67 hw)) Via.refl e8 F_kept_a1 (g := (mkF m 72 #[.val (.ref a1), .val (.ref a2), .val .null, .val (.int (1 : Int32)), .val .null, .val (.int (0 : Int32)), .val (.int (0 : Int32))] [(.ref a1)])) rfl rfl (hb hby d17_72)
  refine own_step (f' := (mkF m 75 #[.val (.ref a1), .val (.ref a2), .val .null, .val (.int (1 : Int32)), .val .null, .val (.int (0 : Int32)), .val (.int (0 : Int32))] [(.ref ka)])) st9 ?_
  refine own_step (f' := (mkF m 77 #[.val (.ref a1), .val (.ref a2), .val .null, .val (.int (1 : Int32)), .val .null, .val (.int (0 : Int32)), .val (.int (0 : Int32))] [(.int (0 : Int32)), (.ref ka)])) (fun _ k => XS.iload X9.here hx rfl (hb hby d17_75) rfl k) ?_
  obtain ⟨cl10, Ar10, qa10, Sa10, Na10, Ha10, Ga10⟩ := id (V_ka)
  have hin11 : ¬ ((0 : Int32) < 0 ∨ cl10.slots.size ≤ ((0 : Int32)).toNatClampNeg) := inb_of Sa10 ⟨by decide, by decide⟩
  refine own_step (f' := (mkF m 78 #[.val (.ref a1), .val (.ref a2), .val .null, .val (.int (1 : Int32)), .val .null, .val (.int (0 : Int32)), .val (.int (0 : Int32))] [(.ref cg)])) (fun _ k => X9.aaload hx (j := (0 : Int32)) (v := (.ref cg)) (by rw [e9]; exact Ar10.1) (State.isArrayOf_alike hZ.alike Ar10.2.1) rfl Ar10.2.2 hin11 (Ha10.at hin11 rfl) (g := (mkF m 77 #[.val (.ref a1), .val (.ref a2), .val .null, .val (.int (1 : Int32)), .val .null, .val (.int (0 : Int32)), .val (.int (0 : Int32))] [(.int (0 : Int32)), (.ref ka)])) rfl rfl (hb hby d17_77) _ k) ?_
  refine own_step (f' := (mkF m 80 #[.val (.ref a1), .val (.ref a2), .val .null, .val (.int (1 : Int32)), .val (.ref cg), .val (.int (0 : Int32)), .val (.int (0 : Int32))] [])) (fun _ k => XS.astore X9.here hx rfl (hb hby d17_78) rfl rfl (l' := #[.val (.ref a1), .val (.ref a2), .val .null, .val (.int (1 : Int32)), .val (.ref cg), .val (.int (0 : Int32)), .val (.int (0 : Int32))]) rfl k) ?_
  refine own_step (f' := (mkF m 83 #[.val (.ref a1), .val (.ref a2), .val .null, .val (.int (1 : Int32)), .val (.ref cg), .val (.int (0 : Int32)), .val (.int (1 : Int32))] [])) (fun _ k => XS.iinc X9.here hx rfl (hb hby d17_80) rfl (l' := #[.val (.ref a1), .val (.ref a2), .val .null, .val (.int (1 : Int32)), .val (.ref cg), .val (.int (0 : Int32)), .val (.int (1 : Int32))]) rfl k) ?_
  refine own_step (f' := (mkF m 31 #[.val (.ref a1), .val (.ref a2), .val .null, .val (.int (1 : Int32)), .val (.ref cg), .val (.int (0 : Int32)), .val (.int (1 : Int32))] [])) (fun _ k => XS.goto X9.here hx rfl (pc0 := 83) (pc' := 31) rfl (hb hby d17_83) (by decide) (by decide) k) ?_
  refine own_step (f' := (mkF m 33 #[.val (.ref a1), .val (.ref a2), .val .null, .val (.int (1 : Int32)), .val (.ref cg), .val (.int (0 : Int32)), .val (.int (1 : Int32))] [(.int (1 : Int32))])) (fun _ k => XS.iload X9.here hx rfl (hb hby d17_31) rfl k) ?_
  refine own_step (f' := (mkF m 35 #[.val (.ref a1), .val (.ref a2), .val .null, .val (.int (1 : Int32)), .val (.ref cg), .val (.int (0 : Int32)), .val (.int (1 : Int32))] [(.int (16 : Int32)), (.int (1 : Int32))])) (fun _ k => XS.bipush X9.here hx rfl (hb hby d17_33) k) ?_
  refine own_step (f' := (mkF m 38 #[.val (.ref a1), .val (.ref a2), .val .null, .val (.int (1 : Int32)), .val (.ref cg), .val (.int (0 : Int32)), .val (.int (1 : Int32))] [])) (fun _ k => XS.icmpNo X9.here hx rfl (hb hby d17_35) rfl (tlt (by decide : ((1 : Int32) < (16 : Int32)))).2.1 k) ?_
  refine own_step (f' := (mkF m 40 #[.val (.ref a1), .val (.ref a2), .val .null, .val (.int (1 : Int32)), .val (.ref cg), .val (.int (0 : Int32)), .val (.int (1 : Int32))] [(.ref cg)])) (fun _ k => XS.aload X9.here hx rfl (hb hby d17_38) rfl rfl k) ?_
  refine own_step (f' := (mkF m 86 #[.val (.ref a1), .val (.ref a2), .val .null, .val (.int (1 : Int32)), .val (.ref cg), .val (.int (0 : Int32)), .val (.int (1 : Int32))] [])) (fun _ k => XS.ifnonnullYes X9.here hx rfl (pc0 := 40) (pc' := 86) rfl (hb hby d17_40) rfl (by decide) (by decide) k) ?_
  refine own_step (f' := (mkF m 88 #[.val (.ref a1), .val (.ref a2), .val .null, .val (.int (1 : Int32)), .val (.ref cg), .val (.int (0 : Int32)), .val (.int (1 : Int32))] [(.ref cg)])) (fun _ k => XS.aload X9.here hx rfl (hb hby d17_86) rfl rfl k) ?_
  refine own_step (f' := (mkF m 91 #[.val (.ref a1), .val (.ref a2), .val .null, .val (.int (1 : Int32)), .val (.ref cg), .val (.int (0 : Int32)), .val (.int (1 : Int32))] [])) (fun _ k => XS.ifnullNo X9.here hx rfl (hb hby d17_88) rfl k) ?_
  refine own_step (f' := (mkF m 92 #[.val (.ref a1), .val (.ref a2), .val .null, .val (.int (1 : Int32)), .val (.ref cg), .val (.int (0 : Int32)), .val (.int (1 : Int32))] [(.ref a2)])) (fun _ k => XS.aloadN X9.here hx rfl (hb hby d17_91) rfl rfl k) ?_
  refine own_step (f' := (mkF m 94 #[.val (.ref a1), .val (.ref a2), .val .null, .val (.int (1 : Int32)), .val (.ref cg), .val (.int (0 : Int32)), .val (.int (1 : Int32))] [(.ref cg), (.ref a2)])) (fun _ k => XS.aload X9.here hx rfl (hb hby d17_92) rfl rfl k) ?_
  obtain ⟨T12, X12, e12, st12⟩ := own_getR X9 hx hZ hown (own_w187 hw) e9 F_length_cg (g := (mkF m 94 #[.val (.ref a1), .val (.ref a2), .val .null, .val (.int (1 : Int32)), .val (.ref cg), .val (.int (0 : Int32)), .val (.int (1 : Int32))] [(.ref cg), (.ref a2)])) rfl rfl (hb hby d17_94)
  refine own_step (f' := (mkF m 97 #[.val (.ref a1), .val (.ref a2), .val .null, .val (.int (1 : Int32)), .val (.ref cg), .val (.int (0 : Int32)), .val (.int (1 : Int32))] [(.int (0 : Int32)), (.ref a2)])) st12 ?_
  have Zq13 : n0 ≤ h0.size := Z0
  obtain ⟨cq13, kq13, q13a, q13b, q13c⟩ := isOf hZ e12 E_a2
  obtain ⟨_, _, ⟨T13, L13, k13, n13⟩, -, X13, ⟨Lc13, hQ13, l13, y13, z13⟩, st13⟩ := X12.virtualBack hx (y := (⟨own_SI, "skip", "(I)V"⟩ : MethodName)) (z := (⟨own_SI, "skip", "(I)V"⟩ : MethodName)) hown (mvT hZ (own_w212 hw)) (mvT hZ (own_w213 hw)) (notFace_of_selects (args := #[]) (mvT hZ (own_w215 hw))) (mvT hZ (own_w215 hw)) (mvT hZ (own_w214 hw)) (by decide) (backOf (W := 0) (rm26 l Z a0 hw [] a2 h0 n0 Zq13 E_a2 g_a2 F_pos_a2 F_attributePage_a2) hZ (own_w216 hw) (own_w71 hw) (by decide) (by decide)) q13a q13c (g := (mkF m 97 #[.val (.ref a1), .val (.ref a2), .val .null, .val (.int (1 : Int32)), .val (.ref cg), .val (.int (0 : Int32)), .val (.int (1 : Int32))] [(.int (0 : Int32)), (.ref a2)])) rfl (by rw [hml]; rfl) (Steps.refl _) (argsL := [(.int (0 : Int32))]) (rest := []) (lenOf pd_15 rfl) rfl (by show 2 * 0 + _ ≤ _; exact Nat.le_of_eq rfl) (hb hby d17_97) (fun _ _ => ⟨rfl, e12, (by decide : 0 + 0 ≤ _), (by decide : 0 + 0 ≤ _)⟩)
  dsimp only [Pt.U, Pt.locs, Pt.cells, Pt.slots] at X13 l13 y13 z13 st13 hQ13
  subst l13 y13 z13
  obtain ⟨rfl, Nq13, K13, P13_0⟩ := hQ13
  obtain ⟨Lo13, X13, N13⟩ : ∃ K, Stand p l e R17y s m #[(.ref a1), (.ref a2), .null, (.int (1 : Int32))] below meth c T13 K 0 0 ∧ Fr n0 K := ⟨_, X13, (Fr.app N0 Nq13)⟩
  refine own_jump (f' := (mkF m 100 #[.val (.ref a1), .val (.ref a2), .val .null, .val (.int (1 : Int32)), .val (.ref cg), .val (.int (0 : Int32)), .val (.int (1 : Int32))] [])) st13 ?_
  refine own_step (f' := (mkF m 101 #[.val (.ref a1), .val (.ref a2), .val .null, .val (.int (1 : Int32)), .val (.ref cg), .val (.int (0 : Int32)), .val (.int (1 : Int32))] [(.ref a2)])) (fun _ k => XS.aloadN X13.here hx rfl (hb hby d17_100) rfl rfl k) ?_
  refine own_step (f' := (mkF m 103 #[.val (.ref a1), .val (.ref a2), .val .null, .val (.int (1 : Int32)), .val (.ref cg), .val (.int (0 : Int32)), .val (.int (1 : Int32))] [(.ref cg), (.ref a2)])) (fun _ k => XS.aload X13.here hx rfl (hb hby d17_101) rfl rfl k) ?_
  obtain ⟨T14, X14, e14, st14⟩ := own_getR X13 hx hZ hown (own_w199 hw) rfl (F_endPage_cg.keep K13 (ninS ne_cg_a2 nin0)) (g := (mkF m 103 #[.val (.ref a1), .val (.ref a2), .val .null, .val (.int (1 : Int32)), .val (.ref cg), .val (.int (0 : Int32)), .val (.int (1 : Int32))] [(.ref cg), (.ref a2)])) rfl rfl (hb hby d17_103)
  refine own_step (f' := (mkF m 106 #[.val (.ref a1), .val (.ref a2), .val .null, .val (.int (1 : Int32)), .val (.ref cg), .val (.int (0 : Int32)), .val (.int (1 : Int32))] [(.int (0 : Int32)), (.ref a2)])) st14 ?_
  have Zq15 : n0 ≤ T13.heap.size := (Nat.le_trans Z0 K13.1)
  obtain ⟨cq15, kq15, q15a, q15b, q15c⟩ := isOf hZ e14 (E_a2.keep K13)
  obtain ⟨_, _, ⟨T15, L15, k15, n15⟩, -, X15, ⟨Lc15, hQ15, l15, y15, z15⟩, st15⟩ := X14.virtualBack hx (y := (⟨own_SI, "switchAttributePage", "(I)V"⟩ : MethodName)) (z := (⟨own_SI, "switchAttributePage", "(I)V"⟩ : MethodName)) hown (mvT hZ (own_w217 hw)) (mvT hZ (own_w218 hw)) (notFace_of_selects (args := #[]) (mvT hZ (own_w220 hw))) (mvT hZ (own_w220 hw)) (mvT hZ (own_w219 hw)) (by decide) (backOf (W := 0) (rm27 l Z a0 hw [] a2 T13.heap n0 Zq15 (E_a2.keep K13) g_a2 P13_0) hZ (own_w221 hw) (own_w71 hw) (by decide) (by decide)) q15a q15c (g := (mkF m 106 #[.val (.ref a1), .val (.ref a2), .val .null, .val (.int (1 : Int32)), .val (.ref cg), .val (.int (0 : Int32)), .val (.int (1 : Int32))] [(.int (0 : Int32)), (.ref a2)])) rfl (by rw [hml]; rfl) (Steps.refl _) (argsL := [(.int (0 : Int32))]) (rest := []) (lenOf pd_15 rfl) rfl (by show 2 * 0 + _ ≤ _; exact Nat.le_of_eq rfl) (hb hby d17_106) (fun _ _ => ⟨rfl, e14, (by decide : 0 + 0 ≤ _), (by decide : 0 + 0 ≤ _)⟩)
  dsimp only [Pt.U, Pt.locs, Pt.cells, Pt.slots] at X15 l15 y15 z15 st15 hQ15
  subst l15 y15 z15
  obtain ⟨rfl, Nq15, K15⟩ := hQ15
  obtain ⟨Lo15, X15, N15⟩ : ∃ K, Stand p l e R17y s m #[(.ref a1), (.ref a2), .null, (.int (1 : Int32))] below meth c T15 K 0 0 ∧ Fr n0 K := ⟨_, X15, (Fr.app N13 Nq15)⟩
  refine own_jump (f' := (mkF m 109 #[.val (.ref a1), .val (.ref a2), .val .null, .val (.int (1 : Int32)), .val (.ref cg), .val (.int (0 : Int32)), .val (.int (1 : Int32))] [])) st15 ?_
  refine own_step (f' := (mkF m 111 #[.val (.ref a1), .val (.ref a2), .val .null, .val (.int (1 : Int32)), .val (.ref cg), .val (.int (0 : Int32)), .val (.int (1 : Int32))] [(.ref cg)])) (fun _ k => XS.aload X15.here hx rfl (hb hby d17_109) rfl rfl k) ?_
  refine own_out (v := some (.ref cg)) X15 hlk (fun h => by rw [Bd.returns] at h; cases h) (fun fs hr => retOut X15 hx Bd.returns rfl (Or.inr (Or.inr (Or.inr (Or.inr ⟨rfl, rfl, rfl⟩)))) (hb hby d17_111) hr) (by decide) (by decide) ?_
  exact ⟨rfl, N15, (((Keep.refl h0 [a2]).trans K13 (allS (Or.inl (List.mem_of_getElem? (i := 0) rfl)) all0)).trans K15 (allS (Or.inl (List.mem_of_getElem? (i := 0) rfl)) all0))⟩
theorem d28_0 : decode prog_12_method_2_code 0 = .ok (.aload_n 0, 1) := by decide +kernel
theorem d28_1 : decode prog_12_method_2_code 1 = .ok (.getfield 27, 3) := by decide +kernel
theorem d28_4 : decode prog_12_method_2_code 4 = .ok (.ireturn, 1) := by decide +kernel
theorem ef_28 (m : MethodId) (x0 : Addr) : entryFrame m #[(.ref x0)] 1 = mkF m 0 #[.val (.ref x0)] [] := by first | (simp [entryFrame, mkF, argsToLocals, Value.category]; done) | rfl
def Q28 (Z : State) (a1 : Addr) (sz : Int32) (h0 : Heap) (n0 : Nat) (v : Option Value) (h : Heap) (L : List Loc) : Prop := v = some (.int sz) ∧ L = [] ∧ h = h0
abbrev R28 : Room := { frames := 0, cells := 0, slots := 0, locals := 0 }
set_option maxRecDepth 65536 in
set_option maxHeartbeats 40000000 in
theorem rm28 (l : Launch) (Z : State) (a0 : Array Value) (hw : ∀ d ∈ tables_1, d.before a0 Z = true) (ws : List Jvm.Cond) (a1 : Addr) (sz : Int32) (h0 : Heap) (n0 : Nat) (Z0 : n0 ≤ h0.size) (F_size_a1 : Fld Z h0 a1 own_CO "size" "I" (.int sz)) :
    MetFree l (⟨own_CO, "size", "()I"⟩ : MethodName) (head1 (Jvm.Cond.code (⟨own_CO, "size", "()I"⟩ : MethodName) prog_12_method_2_code 1 (some .int) :: ws) R28) (fun a U => a = #[(.ref a1)] ∧ Z.Warmed39 U.vm ∧ U.heap = h0) (fun _ _ _ _ _ => True) (fun _ U o U' => ∃ v L, o = .returned v ∧ Q28 Z a1 sz h0 n0 v U'.heap L ∧ FrameEnd U o U' L R28.cells R28.slots) := by
  refine MetFree.of_bodySF (plainFor_of_name pn_6) hisR ?_
  intro p e s m args below meth c s₁ Bd hml0 hP hK
  obtain ⟨rfl, hZ, hh⟩ := hP
  have hx := Bd.exec
  have hby := Bd.bytes
  have hlk : meth.locks = false := BodyLoose.notSynchronized Bd
  have hml : c.maxLocals = 1 := hml0
  have hown : s.vm.findClass own_CO = some m.cls := findClass_of_methodNamed Bd.named
  have hnm := (name_of_methodNamed Bd.named Bd.method).1
  have X0 : Stand p l e R28 s m #[(.ref a1)] below meth c s₁ [] 0 0 := Stand.of_body Bd
  have e0 : s₁.heap = h0 := by rw [← hh, Bd.state]; rfl
  have N0 := Fr.nil n0
  show own_Goes p e below s (Q28 Z a1 sz h0 n0) R28.cells R28.slots s₁ (entryFrame m #[(.ref a1)] 1)
  rw [ef_28 m a1]
  refine own_step (f' := (mkF m 1 #[.val (.ref a1)] [(.ref a1)])) (fun _ k => XS.aloadN X0.here hx rfl (hb hby d28_0) rfl rfl k) ?_
  obtain ⟨T1, X1, e1, st1⟩ := getF X0 hx hZ hown (host := "") (Or.inl (own_w173 hw)) Via.refl e0 F_size_a1 (g := (mkF m 1 #[.val (.ref a1)] [(.ref a1)])) rfl rfl (hb hby d28_1)
  refine own_step (f' := (mkF m 4 #[.val (.ref a1)] [(.int sz)])) st1 ?_
  refine own_out (v := some (.int sz)) X1 hlk (fun h => by rw [Bd.returns] at h; cases h) (fun fs hr => retOut X1 hx Bd.returns rfl (Or.inl ⟨rfl, Or.inl rfl, _, rfl⟩) (hb hby d28_4) hr) (by decide) (by decide) ?_
  rw [e1]
  exact ⟨rfl, rfl, rfl⟩
theorem d30_0 : decode prog_12_method_3_code 0 = .ok (.aload_n 0, 1) := by decide +kernel
theorem d30_1 : decode prog_12_method_3_code 1 = .ok (.getfield 17, 3) := by decide +kernel
theorem d30_4 : decode prog_12_method_3_code 4 = .ok (.iload_n 1, 1) := by decide +kernel
theorem d30_5 : decode prog_12_method_3_code 5 = .ok (.aaload, 1) := by decide +kernel
theorem d30_6 : decode prog_12_method_3_code 6 = .ok (.areturn, 1) := by decide +kernel
theorem ef_30 (m : MethodId) (x0 : Addr) (x1 : Int32) : entryFrame m #[(.ref x0), (.int x1)] 2 = mkF m 0 #[.val (.ref x0), .val (.int x1)] [] := by first | (simp [entryFrame, mkF, argsToLocals, Value.category]; done) | rfl
def Q30 (Z : State) (a1 : Addr) (j : Int32) (bn : Addr) (kn : ClassId) (ns : List Value) (nm0 : Addr) (h0 : Heap) (n0 : Nat) (v : Option Value) (h : Heap) (L : List Loc) : Prop := v = some (.ref nm0) ∧ L = [] ∧ h = h0
abbrev R30 : Room := { frames := 0, cells := 0, slots := 0, locals := 0 }
set_option maxRecDepth 65536 in
set_option maxHeartbeats 40000000 in
theorem rm30 (l : Launch) (Z : State) (a0 : Array Value) (hw : ∀ d ∈ tables_1, d.before a0 Z = true) (ws : List Jvm.Cond) (a1 : Addr) (j : Int32) (bn : Addr) (kn : ClassId) (ns : List Value) (nm0 : Addr) (h0 : Heap) (n0 : Nat) (Z0 : n0 ≤ h0.size) (F_names_a1 : Fld Z h0 a1 own_CO "names" "[Lcom/example/valbonne/valbonne/codec/Name;" (.ref bn)) (V_bn : Arv Z h0 bn kn (.object own_NM) (16 : Int32) ns .null) (hj : ¬ j < (0 : Int32) ∧ j < (16 : Int32)) (hq : ns.getD j.toNatClampNeg .null = .ref nm0) :
    MetFree l (⟨own_CO, "name", "(I)Lcom/example/valbonne/valbonne/codec/Name;"⟩ : MethodName) (head1 (Jvm.Cond.code (⟨own_CO, "name", "(I)Lcom/example/valbonne/valbonne/codec/Name;"⟩ : MethodName) prog_12_method_3_code 2 (some (.object own_NM)) :: ws) R30) (fun a U => a = #[(.ref a1), (.int j)] ∧ Z.Warmed39 U.vm ∧ U.heap = h0) (fun _ _ _ _ _ => True) (fun _ U o U' => ∃ v L, o = .returned v ∧ Q30 Z a1 j bn kn ns nm0 h0 n0 v U'.heap L ∧ FrameEnd U o U' L R30.cells R30.slots) := by
  refine MetFree.of_bodySF (plainFor_of_name pn_6) hisR ?_
  intro p e s m args below meth c s₁ Bd hml0 hP hK
  obtain ⟨rfl, hZ, hh⟩ := hP
  have hx := Bd.exec
  have hby := Bd.bytes
  have hlk : meth.locks = false := BodyLoose.notSynchronized Bd
  have hml : c.maxLocals = 2 := hml0
  have hown : s.vm.findClass own_CO = some m.cls := findClass_of_methodNamed Bd.named
  have hnm := (name_of_methodNamed Bd.named Bd.method).1
  have X0 : Stand p l e R30 s m #[(.ref a1), (.int j)] below meth c s₁ [] 0 0 := Stand.of_body Bd
  have e0 : s₁.heap = h0 := by rw [← hh, Bd.state]; rfl
  have N0 := Fr.nil n0
  show own_Goes p e below s (Q30 Z a1 j bn kn ns nm0 h0 n0) R30.cells R30.slots s₁ (entryFrame m #[(.ref a1), (.int j)] 2)
  rw [ef_30 m a1 j]
  refine own_step (f' := (mkF m 1 #[.val (.ref a1), .val (.int j)] [(.ref a1)])) (fun _ k => XS.aloadN X0.here hx rfl (hb hby d30_0) rfl rfl k) ?_
  obtain ⟨T1, X1, e1, st1⟩ := getF X0 hx hZ hown (host := "") (Or.inl (own_w156 hw)) Via.refl e0 F_names_a1 (g := (mkF m 1 #[.val (.ref a1), .val (.int j)] [(.ref a1)])) rfl rfl (hb hby d30_1)
  refine own_step (f' := (mkF m 4 #[.val (.ref a1), .val (.int j)] [(.ref bn)])) st1 ?_
  refine own_step (f' := (mkF m 5 #[.val (.ref a1), .val (.int j)] [(.int j), (.ref bn)])) (fun _ k => XS.iloadN X1.here hx rfl (hb hby d30_4) rfl k) ?_
  obtain ⟨cl2, Ar2, qa2, Sa2, Na2, Ha2, Ga2⟩ := id (V_bn)
  have hin3 : ¬ (j < 0 ∨ cl2.slots.size ≤ (j).toNatClampNeg) := inb_of Sa2 hj
  refine own_step (f' := (mkF m 6 #[.val (.ref a1), .val (.int j)] [(.ref nm0)])) (fun _ k => X1.aaload hx (j := j) (v := (.ref nm0)) (by rw [e1]; exact Ar2.1) (State.isArrayOf_alike hZ.alike Ar2.2.1) rfl Ar2.2.2 hin3 (Ha2.at hin3 hq) (g := (mkF m 5 #[.val (.ref a1), .val (.int j)] [(.int j), (.ref bn)])) rfl rfl (hb hby d30_5) _ k) ?_
  refine own_out (v := some (.ref nm0)) X1 hlk (fun h => by rw [Bd.returns] at h; cases h) (fun fs hr => retOut X1 hx Bd.returns rfl (Or.inr (Or.inr (Or.inr (Or.inr ⟨rfl, rfl, rfl⟩)))) (hb hby d30_6) hr) (by decide) (by decide) ?_
  rw [e1]
  exact ⟨rfl, rfl, rfl⟩
theorem d31_0 : decode prog_12_method_4_code 0 = .ok (.aload_n 0, 1) := by decide +kernel
theorem d31_1 : decode prog_12_method_4_code 1 = .ok (.getfield 23, 3) := by decide +kernel
theorem d31_4 : decode prog_12_method_4_code 4 = .ok (.iload_n 1, 1) := by decide +kernel
theorem d31_5 : decode prog_12_method_4_code 5 = .ok (.aaload, 1) := by decide +kernel
theorem d31_6 : decode prog_12_method_4_code 6 = .ok (.areturn, 1) := by decide +kernel
theorem ef_31 (m : MethodId) (x0 : Addr) (x1 : Int32) : entryFrame m #[(.ref x0), (.int x1)] 2 = mkF m 0 #[.val (.ref x0), .val (.int x1)] [] := by first | (simp [entryFrame, mkF, argsToLocals, Value.category]; done) | rfl
def Q31 (Z : State) (a1 : Addr) (j : Int32) (bv : Addr) (kv : ClassId) (wz : List Value) (vv : Value) (h0 : Heap) (n0 : Nat) (v : Option Value) (h : Heap) (L : List Loc) : Prop := v = some vv ∧ L = [] ∧ h = h0
abbrev R31 : Room := { frames := 0, cells := 0, slots := 0, locals := 0 }
set_option maxRecDepth 65536 in
set_option maxHeartbeats 40000000 in
theorem rm31 (l : Launch) (Z : State) (a0 : Array Value) (hw : ∀ d ∈ tables_1, d.before a0 Z = true) (ws : List Jvm.Cond) (a1 : Addr) (j : Int32) (bv : Addr) (kv : ClassId) (wz : List Value) (vv : Value) (h0 : Heap) (n0 : Nat) (Z0 : n0 ≤ h0.size) (X_vv : own_Opt Z h0 vv "java/lang/String") (F_values_a1 : Fld Z h0 a1 own_CO "values" "[Ljava/lang/String;" (.ref bv)) (V_bv : Arv Z h0 bv kv (.object "java/lang/String") (16 : Int32) wz .null) (hj : ¬ j < (0 : Int32) ∧ j < (16 : Int32)) (hq : wz.getD j.toNatClampNeg .null = vv) :
    MetFree l (⟨own_CO, "value", "(I)Ljava/lang/String;"⟩ : MethodName) (head1 (Jvm.Cond.code (⟨own_CO, "value", "(I)Ljava/lang/String;"⟩ : MethodName) prog_12_method_4_code 2 (some (.object "java/lang/String")) :: ws) R31) (fun a U => a = #[(.ref a1), (.int j)] ∧ Z.Warmed39 U.vm ∧ U.heap = h0) (fun _ _ _ _ _ => True) (fun _ U o U' => ∃ v L, o = .returned v ∧ Q31 Z a1 j bv kv wz vv h0 n0 v U'.heap L ∧ FrameEnd U o U' L R31.cells R31.slots) := by
  refine MetFree.of_bodySF (plainFor_of_name pn_6) hisR ?_
  intro p e s m args below meth c s₁ Bd hml0 hP hK
  obtain ⟨rfl, hZ, hh⟩ := hP
  have hx := Bd.exec
  have hby := Bd.bytes
  have hlk : meth.locks = false := BodyLoose.notSynchronized Bd
  have hml : c.maxLocals = 2 := hml0
  have hown : s.vm.findClass own_CO = some m.cls := findClass_of_methodNamed Bd.named
  have hnm := (name_of_methodNamed Bd.named Bd.method).1
  have X0 : Stand p l e R31 s m #[(.ref a1), (.int j)] below meth c s₁ [] 0 0 := Stand.of_body Bd
  have e0 : s₁.heap = h0 := by rw [← hh, Bd.state]; rfl
  have N0 := Fr.nil n0
  show own_Goes p e below s (Q31 Z a1 j bv kv wz vv h0 n0) R31.cells R31.slots s₁ (entryFrame m #[(.ref a1), (.int j)] 2)
  rw [ef_31 m a1 j]
  refine own_step (f' := (mkF m 1 #[.val (.ref a1), .val (.int j)] [(.ref a1)])) (fun _ k => XS.aloadN X0.here hx rfl (hb hby d31_0) rfl rfl k) ?_
  obtain ⟨T1, X1, e1, st1⟩ := getF X0 hx hZ hown (host := "") (Or.inl (own_w160 hw)) Via.refl e0 F_values_a1 (g := (mkF m 1 #[.val (.ref a1), .val (.int j)] [(.ref a1)])) rfl rfl (hb hby d31_1)
  refine own_step (f' := (mkF m 4 #[.val (.ref a1), .val (.int j)] [(.ref bv)])) st1 ?_
  refine own_step (f' := (mkF m 5 #[.val (.ref a1), .val (.int j)] [(.int j), (.ref bv)])) (fun _ k => XS.iloadN X1.here hx rfl (hb hby d31_4) rfl k) ?_
  obtain ⟨cl2, Ar2, qa2, Sa2, Na2, Ha2, Ga2⟩ := id (V_bv)
  have hin3 : ¬ (j < 0 ∨ cl2.slots.size ≤ (j).toNatClampNeg) := inb_of Sa2 hj
  refine own_step (f' := (mkF m 6 #[.val (.ref a1), .val (.int j)] [vv])) (fun _ k => X1.aaload hx (j := j) (v := vv) (by rw [e1]; exact Ar2.1) (State.isArrayOf_alike hZ.alike Ar2.2.1) rfl Ar2.2.2 hin3 (Ha2.at hin3 hq) (g := (mkF m 5 #[.val (.ref a1), .val (.int j)] [(.int j), (.ref bv)])) rfl rfl (hb hby d31_5) _ k) ?_
  refine own_out (v := some vv) X1 hlk (fun h => by rw [Bd.returns] at h; cases h) (fun fs hr => retOut X1 hx Bd.returns rfl (Or.inr (Or.inr (Or.inr (Or.inr ⟨rfl, rfl, X_vv.isR⟩)))) (hb hby d31_6) hr) (by decide) (by decide) ?_
  rw [e1]
  exact ⟨rfl, rfl, rfl⟩
theorem own_w231 {a0 Z} (hw : own_HW a0 Z) : (Cond.methodLink "com/example/valbonne/valbonne/codec/AttributeCodingsAddPinLaw" (64 : Nat) ⟨"com/example/valbonne/valbonne/codec/AttributeCodings$Coding", "name", "(I)Lcom/example/valbonne/valbonne/codec/Name;"⟩).before a0 Z = true := own_at hw 231 rfl
theorem own_w235 {a0 Z} (hw : own_HW a0 Z) : (Cond.code ⟨"com/example/valbonne/valbonne/codec/AttributeCodings$Coding", "name", "(I)Lcom/example/valbonne/valbonne/codec/Name;"⟩ prog_12_method_3_code (2 : Nat) (some (FieldType.object "com/example/valbonne/valbonne/codec/Name"))).before a0 Z = true := own_at hw 235 rfl
theorem pd_16 : parseMethodDescriptor "(I)Lcom/example/valbonne/valbonne/codec/Name;" = some ⟨[.int], some (.object "com/example/valbonne/valbonne/codec/Name")⟩ := by decide +kernel
theorem own_w234 {a0 Z} (hw : own_HW a0 Z) : (Cond.selects "com/example/valbonne/valbonne/codec/AttributeCodings$Coding" ⟨"com/example/valbonne/valbonne/codec/AttributeCodings$Coding", "name", "(I)Lcom/example/valbonne/valbonne/codec/Name;"⟩ ⟨"com/example/valbonne/valbonne/codec/AttributeCodings$Coding", "name", "(I)Lcom/example/valbonne/valbonne/codec/Name;"⟩).before a0 Z = true := own_at hw 234 rfl
theorem own_w232 {a0 Z} (hw : own_HW a0 Z) : (Cond.declares ⟨"com/example/valbonne/valbonne/codec/AttributeCodings$Coding", "name", "(I)Lcom/example/valbonne/valbonne/codec/Name;"⟩).before a0 Z = true := own_at hw 232 rfl
theorem own_w233 {a0 Z} (hw : own_HW a0 Z) : (Cond.instanceMethod ⟨"com/example/valbonne/valbonne/codec/AttributeCodings$Coding", "name", "(I)Lcom/example/valbonne/valbonne/codec/Name;"⟩).before a0 Z = true := own_at hw 233 rfl
theorem own_w236 {a0 Z} (hw : own_HW a0 Z) : (Cond.methodLink "com/example/valbonne/valbonne/codec/AttributeCodingsAddPinLaw" (68 : Nat) ⟨"com/example/valbonne/valbonne/codec/AttributeCodings$Coding", "value", "(I)Ljava/lang/String;"⟩).before a0 Z = true := own_at hw 236 rfl
theorem own_w240 {a0 Z} (hw : own_HW a0 Z) : (Cond.code ⟨"com/example/valbonne/valbonne/codec/AttributeCodings$Coding", "value", "(I)Ljava/lang/String;"⟩ prog_12_method_4_code (2 : Nat) (some (FieldType.object "java/lang/String"))).before a0 Z = true := own_at hw 240 rfl
theorem pd_17 : parseMethodDescriptor "(I)Ljava/lang/String;" = some ⟨[.int], some (.object "java/lang/String")⟩ := by decide +kernel
theorem own_w239 {a0 Z} (hw : own_HW a0 Z) : (Cond.selects "com/example/valbonne/valbonne/codec/AttributeCodings$Coding" ⟨"com/example/valbonne/valbonne/codec/AttributeCodings$Coding", "value", "(I)Ljava/lang/String;"⟩ ⟨"com/example/valbonne/valbonne/codec/AttributeCodings$Coding", "value", "(I)Ljava/lang/String;"⟩).before a0 Z = true := own_at hw 239 rfl
theorem own_w237 {a0 Z} (hw : own_HW a0 Z) : (Cond.declares ⟨"com/example/valbonne/valbonne/codec/AttributeCodings$Coding", "value", "(I)Ljava/lang/String;"⟩).before a0 Z = true := own_at hw 237 rfl
theorem own_w238 {a0 Z} (hw : own_HW a0 Z) : (Cond.instanceMethod ⟨"com/example/valbonne/valbonne/codec/AttributeCodings$Coding", "value", "(I)Ljava/lang/String;"⟩).before a0 Z = true := own_at hw 238 rfl
theorem d29_0 : decode method_4_code 0 = .ok (.aload_n 0, 1) := by decide +kernel
theorem d29_1 : decode method_4_code 1 = .ok (.iload_n 1, 1) := by decide +kernel
theorem d29_2 : decode method_4_code 2 = .ok (.invokevirtual 64, 3) := by decide +kernel
theorem d29_5 : decode method_4_code 5 = .ok (.aload_n 2, 1) := by decide +kernel
theorem d29_6 : decode method_4_code 6 = .ok (.if_acmp .ne 16, 3) := by decide +kernel
theorem d29_9 : decode method_4_code 9 = .ok (.aload_n 0, 1) := by decide +kernel
theorem d29_10 : decode method_4_code 10 = .ok (.iload_n 1, 1) := by decide +kernel
theorem d29_11 : decode method_4_code 11 = .ok (.invokevirtual 68, 3) := by decide +kernel
theorem d29_14 : decode method_4_code 14 = .ok (.aload_n 3, 1) := by decide +kernel
theorem d29_15 : decode method_4_code 15 = .ok (.if_acmp .ne 7, 3) := by decide +kernel
theorem d29_18 : decode method_4_code 18 = .ok (.iconst 1, 1) := by decide +kernel
theorem d29_19 : decode method_4_code 19 = .ok (.goto 4, 3) := by decide +kernel
theorem d29_23 : decode method_4_code 23 = .ok (.ireturn, 1) := by decide +kernel
theorem ef_29 (m : MethodId) (x0 : Addr) (x1 : Int32) (x2 : Addr) (x3 : Value) (hx3 : x3.category = 1) : entryFrame m #[(.ref x0), (.int x1), (.ref x2), x3] 4 = mkF m 0 #[.val (.ref x0), .val (.int x1), .val (.ref x2), .val x3] [] := by first | (simp [entryFrame, mkF, argsToLocals, hx3, show ∀ a, (Value.ref a).category = 1 from fun _ => rfl, show ∀ a, (Value.int a).category = 1 from fun _ => rfl]; done) | (cases x3 <;> first | rfl | (simp [Value.category] at *))
def Q29 (Z : State) (a1 : Addr) (j : Int32) (a3 : Addr) (vv : Value) (bn : Addr) (kn : ClassId) (ns : List Value) (bv : Addr) (kv : ClassId) (wz : List Value) (h0 : Heap) (n0 : Nat) (v : Option Value) (h : Heap) (L : List Loc) : Prop := v = some (.int (1 : Int32)) ∧ L = [] ∧ h = h0
abbrev R29 : Room := { frames := 1, cells := 0, slots := 0, locals := 13 }
set_option maxRecDepth 65536 in
set_option maxHeartbeats 40000000 in
theorem rm29 (l : Launch) (Z : State) (a0 : Array Value) (hw : ∀ d ∈ tables_1, d.before a0 Z = true) (ws : List Jvm.Cond) (a1 : Addr) (j : Int32) (a3 : Addr) (vv : Value) (bn : Addr) (kn : ClassId) (ns : List Value) (bv : Addr) (kv : ClassId) (wz : List Value) (h0 : Heap) (n0 : Nat) (Z0 : n0 ≤ h0.size) (X_vv : own_Opt Z h0 vv "java/lang/String") (E_a1 : Exa Z h0 a1 own_CO) (F_names_a1 : Fld Z h0 a1 own_CO "names" "[Lcom/example/valbonne/valbonne/codec/Name;" (.ref bn)) (V_bn : Arv Z h0 bn kn (.object own_NM) (16 : Int32) ns .null) (F_values_a1 : Fld Z h0 a1 own_CO "values" "[Ljava/lang/String;" (.ref bv)) (V_bv : Arv Z h0 bv kv (.object "java/lang/String") (16 : Int32) wz .null) (hj : ¬ j < (0 : Int32) ∧ j < (16 : Int32)) (hq1 : ns.getD j.toNatClampNeg .null = .ref a3) (hq2 : wz.getD j.toNatClampNeg .null = vv) :
    MetFree l (⟨"com/example/valbonne/valbonne/codec/AttributeCodingsAddPinLaw", "at", "(Lcom/example/valbonne/valbonne/codec/AttributeCodings$Coding;ILcom/example/valbonne/valbonne/codec/Name;Ljava/lang/String;)Z"⟩ : MethodName) (head1 (Jvm.Cond.code (⟨"com/example/valbonne/valbonne/codec/AttributeCodingsAddPinLaw", "at", "(Lcom/example/valbonne/valbonne/codec/AttributeCodings$Coding;ILcom/example/valbonne/valbonne/codec/Name;Ljava/lang/String;)Z"⟩ : MethodName) method_4_code 4 (some .boolean) :: ws) R29) (fun a U => a = #[(.ref a1), (.int j), (.ref a3), vv] ∧ Z.Warmed39 U.vm ∧ U.heap = h0) (fun _ _ _ _ _ => True) (fun _ U o U' => ∃ v L, o = .returned v ∧ Q29 Z a1 j a3 vv bn kn ns bv kv wz h0 n0 v U'.heap L ∧ FrameEnd U o U' L R29.cells R29.slots) := by
  refine MetFree.of_bodySF (plainFor_of_name pn_8) hisR ?_
  intro p e s m args below meth c s₁ Bd hml0 hP hK
  obtain ⟨rfl, hZ, hh⟩ := hP
  have hx := Bd.exec
  have hby := Bd.bytes
  have hlk : meth.locks = false := BodyLoose.notSynchronized Bd
  have hml : c.maxLocals = 4 := hml0
  have hown : s.vm.findClass "com/example/valbonne/valbonne/codec/AttributeCodingsAddPinLaw" = some m.cls := findClass_of_methodNamed Bd.named
  have hnm := (name_of_methodNamed Bd.named Bd.method).1
  have X0 : Stand p l e R29 s m #[(.ref a1), (.int j), (.ref a3), vv] below meth c s₁ [] 0 0 := Stand.of_body Bd
  have e0 : s₁.heap = h0 := by rw [← hh, Bd.state]; rfl
  have N0 := Fr.nil n0
  show own_Goes p e below s (Q29 Z a1 j a3 vv bn kn ns bv kv wz h0 n0) R29.cells R29.slots s₁ (entryFrame m #[(.ref a1), (.int j), (.ref a3), vv] 4)
  rw [ef_29 m a1 j a3 vv (XT.cat1 X_vv.isR)]
  refine own_step (f' := (mkF m 1 #[.val (.ref a1), .val (.int j), .val (.ref a3), .val vv] [(.ref a1)])) (fun _ k => XS.aloadN X0.here hx rfl (hb hby d29_0) rfl rfl k) ?_
  refine own_step (f' := (mkF m 2 #[.val (.ref a1), .val (.int j), .val (.ref a3), .val vv] [(.int j), (.ref a1)])) (fun _ k => XS.iloadN X0.here hx rfl (hb hby d29_1) rfl k) ?_
  have hp1_hj : ¬ j < (0 : Int32) ∧ j < (16 : Int32) := hj
  have hp1_hq : ns.getD j.toNatClampNeg .null = .ref a3 := hq1
  have Zq1 : n0 ≤ h0.size := Z0
  obtain ⟨cq1, kq1, q1a, q1b, q1c⟩ := isOf hZ e0 E_a1
  obtain ⟨_, _, ⟨T1, L1, k1, n1⟩, -, X1, ⟨Lc1, hQ1, l1, y1, z1⟩, st1⟩ := X0.virtualBack hx (y := (⟨own_CO, "name", "(I)Lcom/example/valbonne/valbonne/codec/Name;"⟩ : MethodName)) (z := (⟨own_CO, "name", "(I)Lcom/example/valbonne/valbonne/codec/Name;"⟩ : MethodName)) hown (mvT hZ (own_w231 hw)) (mvT hZ (own_w232 hw)) (notFace_of_selects (args := #[]) (mvT hZ (own_w234 hw))) (mvT hZ (own_w234 hw)) (mvT hZ (own_w233 hw)) (by decide) (backOf (W := 0) (rm30 l Z a0 hw [] a1 j bn kn ns a3 h0 n0 Zq1 F_names_a1 V_bn hp1_hj hp1_hq) hZ (own_w235 hw) (own_w148 hw) (by decide) (by decide)) q1a q1c (g := (mkF m 2 #[.val (.ref a1), .val (.int j), .val (.ref a3), .val vv] [(.int j), (.ref a1)])) rfl (by rw [hml]; rfl) (Steps.refl _) (argsL := [(.int j)]) (rest := []) (lenOf pd_16 rfl) rfl (by show 2 * 0 + _ ≤ _; exact Nat.le_of_eq rfl) (hb hby d29_2) (fun _ _ => ⟨rfl, e0, (by decide : 0 + 0 ≤ _), (by decide : 0 + 0 ≤ _)⟩)
  dsimp only [Pt.U, Pt.locs, Pt.cells, Pt.slots] at X1 l1 y1 z1 st1 hQ1
  subst l1 y1 z1
  obtain ⟨rfl, rfl, e1⟩ := hQ1
  try rw [List.append_nil] at X1
  refine own_jump (f' := (mkF m 5 #[.val (.ref a1), .val (.int j), .val (.ref a3), .val vv] [(.ref a3)])) st1 ?_
  refine own_step (f' := (mkF m 6 #[.val (.ref a1), .val (.int j), .val (.ref a3), .val vv] [(.ref a3), (.ref a3)])) (fun _ k => XS.aloadN X1.here hx rfl (hb hby d29_5) rfl rfl k) ?_
  refine own_step (f' := (mkF m 9 #[.val (.ref a1), .val (.int j), .val (.ref a3), .val vv] [])) (fun _ k => Jvm.RoadKit.acmp (g := (mkF m 6 #[.val (.ref a1), .val (.int j), .val (.ref a3), .val vv] [(.ref a3), (.ref a3)])) X1 hx rfl rfl rfl (pc0 := 6) (pc' := 9) (same := true) rfl (hb hby d29_6) rfl (decide_eq_true rfl) (by decide) (by decide) k) ?_
  refine own_step (f' := (mkF m 10 #[.val (.ref a1), .val (.int j), .val (.ref a3), .val vv] [(.ref a1)])) (fun _ k => XS.aloadN X1.here hx rfl (hb hby d29_9) rfl rfl k) ?_
  refine own_step (f' := (mkF m 11 #[.val (.ref a1), .val (.int j), .val (.ref a3), .val vv] [(.int j), (.ref a1)])) (fun _ k => XS.iloadN X1.here hx rfl (hb hby d29_10) rfl k) ?_
  have hp2_hj : ¬ j < (0 : Int32) ∧ j < (16 : Int32) := hj
  have hp2_hq : wz.getD j.toNatClampNeg .null = vv := hq2
  have Zq2 : n0 ≤ h0.size := Z0
  obtain ⟨cq2, kq2, q2a, q2b, q2c⟩ := isOf hZ e1 E_a1
  obtain ⟨_, _, ⟨T2, L2, k2, n2⟩, -, X2, ⟨Lc2, hQ2, l2, y2, z2⟩, st2⟩ := X1.virtualBack hx (y := (⟨own_CO, "value", "(I)Ljava/lang/String;"⟩ : MethodName)) (z := (⟨own_CO, "value", "(I)Ljava/lang/String;"⟩ : MethodName)) hown (mvT hZ (own_w236 hw)) (mvT hZ (own_w237 hw)) (notFace_of_selects (args := #[]) (mvT hZ (own_w239 hw))) (mvT hZ (own_w239 hw)) (mvT hZ (own_w238 hw)) (by decide) (backOf (W := 0) (rm31 l Z a0 hw [] a1 j bv kv wz vv h0 n0 Zq2 X_vv F_values_a1 V_bv hp2_hj hp2_hq) hZ (own_w240 hw) (own_w148 hw) (by decide) (by decide)) q2a q2c (g := (mkF m 11 #[.val (.ref a1), .val (.int j), .val (.ref a3), .val vv] [(.int j), (.ref a1)])) rfl (by rw [hml]; rfl) (Steps.refl _) (argsL := [(.int j)]) (rest := []) (lenOf pd_17 rfl) rfl (by show 2 * 0 + _ ≤ _; exact Nat.le_of_eq rfl) (hb hby d29_11) (fun _ _ => ⟨rfl, e1, (by decide : 0 + 0 ≤ _), (by decide : 0 + 0 ≤ _)⟩)
  dsimp only [Pt.U, Pt.locs, Pt.cells, Pt.slots] at X2 l2 y2 z2 st2 hQ2
  subst l2 y2 z2
  obtain ⟨rfl, rfl, e2⟩ := hQ2
  try rw [List.append_nil] at X2
  refine own_jump (f' := (mkF m 14 #[.val (.ref a1), .val (.int j), .val (.ref a3), .val vv] [vv])) st2 ?_
  refine own_step (f' := (mkF m 15 #[.val (.ref a1), .val (.int j), .val (.ref a3), .val vv] [vv, vv])) (fun _ k => XS.aloadN X2.here hx rfl (hb hby d29_14) rfl X_vv.isR k) ?_
  refine own_step (f' := (mkF m 18 #[.val (.ref a1), .val (.int j), .val (.ref a3), .val vv] [])) (fun _ k => Jvm.RoadKit.acmp (g := (mkF m 15 #[.val (.ref a1), .val (.int j), .val (.ref a3), .val vv] [vv, vv])) X2 hx rfl X_vv.isR X_vv.isR (pc0 := 15) (pc' := 18) (same := true) rfl (hb hby d29_15) rfl (decide_eq_true rfl) (by decide) (by decide) k) ?_
  refine own_step (f' := (mkF m 19 #[.val (.ref a1), .val (.int j), .val (.ref a3), .val vv] [(.int (1 : Int32))])) (fun _ k => XS.iconst X2.here hx rfl (hb hby d29_18) k) ?_
  refine own_step (f' := (mkF m 23 #[.val (.ref a1), .val (.int j), .val (.ref a3), .val vv] [(.int (1 : Int32))])) (fun _ k => XS.goto X2.here hx rfl (pc0 := 19) (pc' := 23) rfl (hb hby d29_19) (by decide) (by decide) k) ?_
  refine own_out (v := some (.int (1 : Int32))) X2 hlk (fun h => by rw [Bd.returns] at h; cases h) (fun fs hr => retN X2 hx (t := .boolean) Bd.returns (by simp) (hb hby d29_23) hr) (by decide) (by decide) ?_
  rw [e2]
  exact ⟨rfl, rfl, rfl⟩
theorem own_atoms {a0 : Array Value} {Z : State} (hw : ∀ d ∈ tables_1, d.before a0 Z = true) : ∀ a ∈ Bundle.stringAtoms, a.before a0 Z = true := fun d hd => by
  simp only [Bundle.stringAtoms, List.mem_cons, List.not_mem_nil, or_false] at hd
  rcases hd with rfl | rfl | rfl | rfl | rfl | rfl | rfl
  · exact hw _ (List.mem_of_getElem? (i := 5) rfl)
  · exact hw _ (List.mem_of_getElem? (i := 13) rfl)
  · exact hw _ (List.mem_of_getElem? (i := 17) rfl)
  · exact hw _ (List.mem_of_getElem? (i := 26) rfl)
  · exact hw _ (List.mem_of_getElem? (i := 28) rfl)
  · exact hw _ (List.mem_of_getElem? (i := 101) rfl)
  · exact hw _ (List.mem_of_getElem? (i := 102) rfl)
theorem own_w75 {a0 Z} (hw : own_HW a0 Z) : (Cond.methodLink "com/example/valbonne/valbonne/codec/StreamInput" (3 : Nat) ⟨"java/lang/Object", "<init>", "()V"⟩).before a0 Z = true := own_at hw 75 rfl
theorem own_w76 {a0 Z} (hw : own_HW a0 Z) : (Cond.fieldLink "com/example/valbonne/valbonne/codec/StreamInput" (9 : Nat) "com/example/valbonne/valbonne/codec/StreamInput" "table" "[B").before a0 Z = true := own_at hw 76 rfl
theorem own_w77 {a0 Z} (hw : own_HW a0 Z) : (Cond.lays "com/example/valbonne/valbonne/codec/StreamInput" "com/example/valbonne/valbonne/codec/StreamInput" "table" "[B").before a0 Z = true := own_at hw 77 rfl
theorem own_w93 {a0 Z} (hw : own_HW a0 Z) : (Cond.laysFinal "com/example/valbonne/valbonne/codec/StreamInput" "com/example/valbonne/valbonne/codec/StreamInput" "literalNames" "Lcom/example/valbonne/valbonne/codec/OffsetNames;").before a0 Z = true := own_at hw 93 rfl
theorem own_fd_12 : parseFieldDescriptor "Lcom/example/valbonne/valbonne/codec/OffsetNames;" = some (.object "com/example/valbonne/valbonne/codec/OffsetNames") := by decide +kernel
theorem own_w95 {a0 Z} (hw : own_HW a0 Z) : (Cond.laysFinal "com/example/valbonne/valbonne/codec/StreamInput" "com/example/valbonne/valbonne/codec/StreamInput" "source" "Ljava/io/InputStream;").before a0 Z = true := own_at hw 95 rfl
theorem own_fd_13 : parseFieldDescriptor "Ljava/io/InputStream;" = some (.object "java/io/InputStream") := by decide +kernel
theorem own_w97 {a0 Z} (hw : own_HW a0 Z) : (Cond.lays "com/example/valbonne/valbonne/codec/StreamInput" "com/example/valbonne/valbonne/codec/StreamInput" "bytes" "[B").before a0 Z = true := own_at hw 97 rfl
theorem own_w104 {a0 Z} (hw : own_HW a0 Z) : (Cond.laysFinal "com/example/valbonne/valbonne/codec/StreamInput" "com/example/valbonne/valbonne/codec/StreamInput" "where" "Ljava/lang/String;").before a0 Z = true := own_at hw 104 rfl
theorem own_w107 {a0 Z} (hw : own_HW a0 Z) : (Cond.laysFinal "com/example/valbonne/valbonne/codec/StreamInput" "com/example/valbonne/valbonne/codec/StreamInput" "what" "Ljava/lang/String;").before a0 Z = true := own_at hw 107 rfl
theorem own_w109 {a0 Z} (hw : own_HW a0 Z) : (Cond.laysFinal "com/example/valbonne/valbonne/codec/StreamInput" "com/example/valbonne/valbonne/codec/StreamInput" "header" "Lcom/example/valbonne/valbonne/codec/StreamInput;").before a0 Z = true := own_at hw 109 rfl
theorem own_fd_14 : parseFieldDescriptor "Lcom/example/valbonne/valbonne/codec/StreamInput;" = some (.object "com/example/valbonne/valbonne/codec/StreamInput") := by decide +kernel
theorem own_w99 {a0 Z} (hw : own_HW a0 Z) : (Cond.lays "com/example/valbonne/valbonne/codec/StreamInput" "com/example/valbonne/valbonne/codec/StreamInput" "limit" "I").before a0 Z = true := own_at hw 99 rfl
theorem own_w121 {a0 Z} (hw : own_HW a0 Z) : (Cond.lays "com/example/valbonne/valbonne/codec/StreamInput" "com/example/valbonne/valbonne/codec/StreamInput" "offset" "J").before a0 Z = true := own_at hw 121 rfl
theorem own_w78 {a0 Z} (hw : own_HW a0 Z) : (Cond.classLink "com/example/valbonne/valbonne/codec/StreamInput" (15 : Nat) "com/example/valbonne/valbonne/codec/OffsetNames").before a0 Z = true := own_at hw 78 rfl
theorem own_w80 {a0 Z} (hw : own_HW a0 Z) : (Cond.initialized "com/example/valbonne/valbonne/codec/OffsetNames").before a0 Z = true := own_at hw 80 rfl
theorem own_w81 {a0 Z} (hw : own_HW a0 Z) : (Cond.methodLink "com/example/valbonne/valbonne/codec/StreamInput" (17 : Nat) ⟨"com/example/valbonne/valbonne/codec/OffsetNames", "<init>", "()V"⟩).before a0 Z = true := own_at hw 81 rfl
theorem own_w83 {a0 Z} (hw : own_HW a0 Z) : (Cond.code ⟨"com/example/valbonne/valbonne/codec/OffsetNames", "<init>", "()V"⟩ prog_65_method_1_code (1 : Nat) none).before a0 Z = true := own_at hw 83 rfl
theorem own_w82 {a0 Z} (hw : own_HW a0 Z) : (Cond.instanceMethod ⟨"com/example/valbonne/valbonne/codec/OffsetNames", "<init>", "()V"⟩).before a0 Z = true := own_at hw 82 rfl
theorem own_w92 {a0 Z} (hw : own_HW a0 Z) : (Cond.fieldLink "com/example/valbonne/valbonne/codec/StreamInput" (18 : Nat) "com/example/valbonne/valbonne/codec/StreamInput" "literalNames" "Lcom/example/valbonne/valbonne/codec/OffsetNames;").before a0 Z = true := own_at hw 92 rfl
theorem own_w94 {a0 Z} (hw : own_HW a0 Z) : (Cond.fieldLink "com/example/valbonne/valbonne/codec/StreamInput" (22 : Nat) "com/example/valbonne/valbonne/codec/StreamInput" "source" "Ljava/io/InputStream;").before a0 Z = true := own_at hw 94 rfl
theorem own_w100 {a0 Z} (hw : own_HW a0 Z) : (Cond.stringLink "com/example/valbonne/valbonne/codec/StreamInput" (33 : Nat) "byte").before a0 Z = true := own_at hw 100 rfl
theorem own_w103 {a0 Z} (hw : own_HW a0 Z) : (Cond.fieldLink "com/example/valbonne/valbonne/codec/StreamInput" (35 : Nat) "com/example/valbonne/valbonne/codec/StreamInput" "where" "Ljava/lang/String;").before a0 Z = true := own_at hw 103 rfl
theorem own_w105 {a0 Z} (hw : own_HW a0 Z) : (Cond.stringLink "com/example/valbonne/valbonne/codec/StreamInput" (39 : Nat) "stream").before a0 Z = true := own_at hw 105 rfl
theorem own_w106 {a0 Z} (hw : own_HW a0 Z) : (Cond.fieldLink "com/example/valbonne/valbonne/codec/StreamInput" (41 : Nat) "com/example/valbonne/valbonne/codec/StreamInput" "what" "Ljava/lang/String;").before a0 Z = true := own_at hw 106 rfl
theorem own_w108 {a0 Z} (hw : own_HW a0 Z) : (Cond.fieldLink "com/example/valbonne/valbonne/codec/StreamInput" (44 : Nat) "com/example/valbonne/valbonne/codec/StreamInput" "header" "Lcom/example/valbonne/valbonne/codec/StreamInput;").before a0 Z = true := own_at hw 108 rfl
theorem d13_0 : decode prog_83_method_1_code 0 = .ok (.aload_n 0, 1) := by decide +kernel
theorem d13_1 : decode prog_83_method_1_code 1 = .ok (.invokespecial 3, 3) := by decide +kernel
theorem d13_4 : decode prog_83_method_1_code 4 = .ok (.aload_n 0, 1) := by decide +kernel
theorem d13_5 : decode prog_83_method_1_code 5 = .ok (.iconst 0, 1) := by decide +kernel
theorem d13_6 : decode prog_83_method_1_code 6 = .ok (.newarray .byte, 2) := by decide +kernel
theorem d13_8 : decode prog_83_method_1_code 8 = .ok (.putfield 9, 3) := by decide +kernel
theorem d13_11 : decode prog_83_method_1_code 11 = .ok (.aload_n 0, 1) := by decide +kernel
theorem d13_12 : decode prog_83_method_1_code 12 = .ok (.new 15, 3) := by decide +kernel
theorem d13_15 : decode prog_83_method_1_code 15 = .ok (.dup, 1) := by decide +kernel
theorem d13_16 : decode prog_83_method_1_code 16 = .ok (.invokespecial 17, 3) := by decide +kernel
theorem d13_19 : decode prog_83_method_1_code 19 = .ok (.putfield 18, 3) := by decide +kernel
theorem d13_22 : decode prog_83_method_1_code 22 = .ok (.aload_n 0, 1) := by decide +kernel
theorem d13_23 : decode prog_83_method_1_code 23 = .ok (.aconst_null, 1) := by decide +kernel
theorem d13_24 : decode prog_83_method_1_code 24 = .ok (.putfield 22, 3) := by decide +kernel
theorem d13_27 : decode prog_83_method_1_code 27 = .ok (.aload_n 0, 1) := by decide +kernel
theorem d13_28 : decode prog_83_method_1_code 28 = .ok (.aload_n 1, 1) := by decide +kernel
theorem d13_29 : decode prog_83_method_1_code 29 = .ok (.putfield 26, 3) := by decide +kernel
theorem d13_32 : decode prog_83_method_1_code 32 = .ok (.aload_n 0, 1) := by decide +kernel
theorem d13_33 : decode prog_83_method_1_code 33 = .ok (.aload_n 1, 1) := by decide +kernel
theorem d13_34 : decode prog_83_method_1_code 34 = .ok (.arraylength, 1) := by decide +kernel
theorem d13_35 : decode prog_83_method_1_code 35 = .ok (.putfield 29, 3) := by decide +kernel
theorem d13_38 : decode prog_83_method_1_code 38 = .ok (.aload_n 0, 1) := by decide +kernel
theorem d13_39 : decode prog_83_method_1_code 39 = .ok (.ldc 33, 2) := by decide +kernel
theorem d13_41 : decode prog_83_method_1_code 41 = .ok (.putfield 35, 3) := by decide +kernel
theorem d13_44 : decode prog_83_method_1_code 44 = .ok (.aload_n 0, 1) := by decide +kernel
theorem d13_45 : decode prog_83_method_1_code 45 = .ok (.ldc 39, 2) := by decide +kernel
theorem d13_47 : decode prog_83_method_1_code 47 = .ok (.putfield 41, 3) := by decide +kernel
theorem d13_50 : decode prog_83_method_1_code 50 = .ok (.aload_n 0, 1) := by decide +kernel
theorem d13_51 : decode prog_83_method_1_code 51 = .ok (.aload_n 0, 1) := by decide +kernel
theorem d13_52 : decode prog_83_method_1_code 52 = .ok (.putfield 44, 3) := by decide +kernel
theorem d13_55 : decode prog_83_method_1_code 55 = .ok (.return_, 1) := by decide +kernel
theorem ef_13 (m : MethodId) (x0 : Addr) (x1 : Addr) : entryFrame m #[(.ref x0), (.ref x1)] 2 = mkF m 0 #[.val (.ref x0), .val (.ref x1)] [] := by first | (simp [entryFrame, mkF, argsToLocals, Value.category]; done) | rfl
def Q13 (Z : State) (a1 : Addr) (a2 : Addr) (u0 : Value) (u1 : Value) (u2 : Value) (u3 : Value) (u4 : Value) (u5 : Value) (u6 : Value) (kz : ClassId) (h0 : Heap) (n0 : Nat) (v : Option Value) (h : Heap) (L : List Loc) : Prop := v = none ∧ Fr n0 L ∧ Keep h0 h [a1] ∧ Fld Z h a1 own_SI "bytes" "[B" (.ref a2) ∧ Fld Z h a1 own_SI "limit" "I" (.int (0 : Int32)) ∧ Fld Z h a1 own_SI "pos" "I" (.int (0 : Int32)) ∧ Fld Z h a1 own_SI "offset" "J" (.long (0 : Int64)) ∧ Fld Z h a1 own_SI "attributePage" "I" (.int (0 : Int32))
abbrev R13 : Room := { frames := 2, cells := 8, slots := 83, locals := 26 }
set_option maxRecDepth 65536 in
set_option maxHeartbeats 40000000 in
theorem rm13 (l : Launch) (Z : State) (a0 : Array Value) (hw : ∀ d ∈ tables_1, d.before a0 Z = true) (ws : List Jvm.Cond) (a1 : Addr) (a2 : Addr) (u0 : Value) (u1 : Value) (u2 : Value) (u3 : Value) (u4 : Value) (u5 : Value) (u6 : Value) (kz : ClassId) (h0 : Heap) (n0 : Nat) (Z0 : n0 ≤ h0.size) (E_a1 : Exa Z h0 a1 own_SI) (g_a1 : n0 ≤ a1) (ne_a1_a2 : a1 ≠ a2) (F_table_a1 : Fld Z h0 a1 own_SI "table" "[B" u0) (F_literalNames_a1 : Fld Z h0 a1 own_SI "literalNames" "Lcom/example/valbonne/valbonne/codec/OffsetNames;" u1) (F_source_a1 : Fld Z h0 a1 own_SI "source" "Ljava/io/InputStream;" u2) (F_bytes_a1 : Fld Z h0 a1 own_SI "bytes" "[B" u3) (F_where_a1 : Fld Z h0 a1 own_SI "where" "Ljava/lang/String;" u4) (F_what_a1 : Fld Z h0 a1 own_SI "what" "Ljava/lang/String;" u5) (F_header_a1 : Fld Z h0 a1 own_SI "header" "Lcom/example/valbonne/valbonne/codec/StreamInput;" u6) (F_limit_a1 : Fld Z h0 a1 own_SI "limit" "I" (.int (0 : Int32))) (F_pos_a1 : Fld Z h0 a1 own_SI "pos" "I" (.int (0 : Int32))) (F_offset_a1 : Fld Z h0 a1 own_SI "offset" "J" (.long (0 : Int64))) (F_attributePage_a1 : Fld Z h0 a1 own_SI "attributePage" "I" (.int (0 : Int32))) (V_a2 : Arv Z h0 a2 kz .byte (0 : Int32) [] (.int (0 : Int32))) :
    MetFree l (⟨own_SI, "<init>", "([B)V"⟩ : MethodName) (head1 (Jvm.Cond.code (⟨own_SI, "<init>", "([B)V"⟩ : MethodName) prog_83_method_1_code 2 none :: ws) R13) (fun a U => a = #[(.ref a1), (.ref a2)] ∧ Z.Warmed39 U.vm ∧ U.heap = h0) (fun _ _ _ _ _ => True) (fun _ U o U' => ∃ v L, o = .returned v ∧ Q13 Z a1 a2 u0 u1 u2 u3 u4 u5 u6 kz h0 n0 v U'.heap L ∧ ReturnedEndW U o U' L R13.cells R13.slots) := by
  refine MetFree.of_bodySF (plainFor_of_name pn_7) hisR ?_
  intro p e s m args below meth c s₁ Bd hml0 hP hK
  obtain ⟨rfl, hZ, hh⟩ := hP
  have hx := Bd.exec
  have hby := Bd.bytes
  have hlk : meth.locks = false := BodyLoose.notSynchronized Bd
  have hml : c.maxLocals = 2 := hml0
  have hown : s.vm.findClass own_SI = some m.cls := findClass_of_methodNamed Bd.named
  have hnm := (name_of_methodNamed Bd.named Bd.method).1
  have X0 : Stand p l e R13 s m #[(.ref a1), (.ref a2)] below meth c s₁ [] 0 0 := Stand.of_body Bd
  have e0 : s₁.heap = h0 := by rw [← hh, Bd.state]; rfl
  have N0 := Fr.nil n0
  show own_GoesW p e below s (Q13 Z a1 a2 u0 u1 u2 u3 u4 u5 u6 kz h0 n0) R13.cells R13.slots s₁ (entryFrame m #[(.ref a1), (.ref a2)] 2)
  rw [ef_13 m a1 a2]
  refine own_stepW (f' := (mkF m 1 #[.val (.ref a1), .val (.ref a2)] [(.ref a1)])) (fun _ k => XS.aloadN X0.here hx rfl (hb hby d13_0) rfl rfl k) ?_
  obtain ⟨T1, X1, e1, st1⟩ := initO X0 hx hZ hown (own_w75 hw) (own_w23 hw) (own_w24 hw) e0 (g := (mkF m 1 #[.val (.ref a1), .val (.ref a2)] [(.ref a1)])) rfl (by rw [hml]; rfl) rfl (hb hby d13_1) (by decide) (W := 0) (by show 2 * 0 + _ ≤ _; exact Nat.le_of_eq rfl) (by decide)
  refine own_stepW (f' := (mkF m 4 #[.val (.ref a1), .val (.ref a2)] [])) st1 ?_
  refine own_stepW (f' := (mkF m 5 #[.val (.ref a1), .val (.ref a2)] [(.ref a1)])) (fun _ k => XS.aloadN X1.here hx rfl (hb hby d13_4) rfl rfl k) ?_
  refine own_stepW (f' := (mkF m 6 #[.val (.ref a1), .val (.ref a2)] [(.int (0 : Int32)), (.ref a1)])) (fun _ k => XS.iconst X1.here hx rfl (hb hby d13_5) k) ?_
  obtain ⟨T2, h2, k2, X2, e2, E2, A2, st2⟩ := newP X1 hx hZ (aty := .byte) (own_w17 hw) e1 (g := (mkF m 6 #[.val (.ref a1), .val (.ref a2)] [(.int (0 : Int32)), (.ref a1)])) rfl (hb hby d13_6) rfl (by decide) (cap := 0) (by decide) (by decide) (by decide) (by decide)
  obtain ⟨b2, g2⟩ : ∃ z, z = h0.size := ⟨_, rfl⟩
  rw [← g2] at A2 st2
  have ne_a1_b2 : a1 ≠ b2 := Nat.ne_of_lt (Nat.lt_of_lt_of_le E_a1.lt (Nat.le_of_eq g2.symm))
  have ne_a2_b2 : a2 ≠ b2 := Nat.ne_of_lt (Nat.lt_of_lt_of_le V_a2.lt (Nat.le_of_eq g2.symm))
  have g_b2 : n0 ≤ b2 := Nat.le_trans Z0 (Nat.le_of_eq g2.symm)
  have sz_b2 : h0.size ≤ b2 := Nat.le_trans (Keep.refl h0 [a1]).1 (Nat.le_of_eq g2.symm)
  have V_b2 : Arv Z h2 b2 k2 .byte (0 : Int32) [] (.int (0 : Int32)) := (Arv.new A2 (by decide)).pad (pad_rep [] (.int (0 : Int32)) 0)
  refine own_stepW (f' := (mkF m 8 #[.val (.ref a1), .val (.ref a2)] [(.ref b2), (.ref a1)])) st2 ?_
  obtain ⟨T3, h3, X3, e3, W3, st3⟩ := putF X2 hx hZ hown (host := "") (Or.inl (own_w76 hw)) Via.refl e2 (F_table_a1.ext E2) (E_a1.ext E2) (Or.inl (own_w77 hw)) (own_w70 hw) own_fd_0 rfl rfl (g := (mkF m 8 #[.val (.ref a1), .val (.ref a2)] [(.ref b2), (.ref a1)])) rfl rfl (hb hby d13_8)
  obtain ⟨Lo3, X3, N3⟩ : ∃ K, Stand p l e R13 s m #[(.ref a1), (.ref a2)] below meth c T3 K 1 0 ∧ Fr n0 K := ⟨_, X3, (Fr.snoc X3 N0 g_a1)⟩
  refine own_stepW (f' := (mkF m 11 #[.val (.ref a1), .val (.ref a2)] [])) st3 ?_
  refine own_stepW (f' := (mkF m 12 #[.val (.ref a1), .val (.ref a2)] [(.ref a1)])) (fun _ k => XS.aloadN X3.here hx rfl (hb hby d13_11) rfl rfl k) ?_
  obtain ⟨T4, h4, X4, e4, E4, A4, D4, -, st4⟩ := newO X3 hx hZ hown (own_w78 hw) (own_w79 hw) (own_w80 hw) e3 (g := (mkF m 12 #[.val (.ref a1), .val (.ref a2)] [(.ref a1)])) rfl (hb hby d13_12) (by decide) (by decide)
  obtain ⟨b4, g4⟩ : ∃ z, z = h3.size := ⟨_, rfl⟩
  rw [← g4] at A4 D4 st4
  have ne_a1_b4 : a1 ≠ b4 := Nat.ne_of_lt (Nat.lt_of_lt_of_le ((E_a1.ext E2).wr W3).lt (Nat.le_of_eq g4.symm))
  have ne_a2_b4 : a2 ≠ b4 := Nat.ne_of_lt (Nat.lt_of_lt_of_le ((V_a2.ext E2).other W3 (Ne.symm ne_a1_a2)).lt (Nat.le_of_eq g4.symm))
  have ne_b2_b4 : b2 ≠ b4 := Nat.ne_of_lt (Nat.lt_of_lt_of_le (V_b2.other W3 (Ne.symm ne_a1_b2)).lt (Nat.le_of_eq g4.symm))
  have g_b4 : n0 ≤ b4 := Nat.le_trans (Nat.le_trans (Nat.le_trans Z0 E2.1) (Nat.le_of_eq W3.size.symm)) (Nat.le_of_eq g4.symm)
  have sz_b4 : h0.size ≤ b4 := Nat.le_trans (((Keep.refl h0 [a1]).ext E2).wr W3 (Or.inl (List.mem_of_getElem? (i := 0) rfl))).1 (Nat.le_of_eq g4.symm)
  have F_offsets_b4 : Fld Z h4 b4 "com/example/valbonne/valbonne/codec/OffsetNames" "offsets" "[J" .null := D4 (Or.inl (own_w87 hw)) own_fd_7
  have F_names_b4 : Fld Z h4 b4 "com/example/valbonne/valbonne/codec/OffsetNames" "names" "[Lcom/example/valbonne/valbonne/codec/Name;" .null := D4 (Or.inl (own_w91 hw)) own_fd_8
  refine own_stepW (f' := (mkF m 15 #[.val (.ref a1), .val (.ref a2)] [(.ref b4), (.ref a1)])) st4 ?_
  refine own_stepW (f' := (mkF m 16 #[.val (.ref a1), .val (.ref a2)] [(.ref b4), (.ref b4), (.ref a1)])) (fun _ k => XS.dup X4.here hx rfl (hb hby d13_15) rfl rfl k) ?_
  have Zq5 : n0 ≤ h4.size := (Nat.le_trans (Nat.le_trans (Nat.le_trans Z0 E2.1) (Nat.le_of_eq W3.size.symm)) E4.1)
  obtain ⟨_, _, ⟨T5, L5, k5, n5⟩, -, X5, ⟨Lc5, hQ5, l5, y5, z5⟩, st5⟩ := X4.specialBack hx (y := (⟨"com/example/valbonne/valbonne/codec/OffsetNames", "<init>", "()V"⟩ : MethodName)) rfl hown (mvT hZ (own_w81 hw)) (mvT hZ (own_w82 hw)) (mvT hZ (own_w83 hw)) (by decide) (backOf (W := 2) (rm14 l Z a0 hw [] b4 .null .null h4 n0 Zq5 A4 g_b4 F_offsets_b4 F_names_b4) hZ (own_w83 hw) (own_w80 hw) (by decide) (by decide)) (g := (mkF m 16 #[.val (.ref a1), .val (.ref a2)] [(.ref b4), (.ref b4), (.ref a1)])) rfl (by rw [hml]; rfl) (Steps.refl _) (a := b4) (argsL := []) (rest := [(.ref b4), (.ref a1)]) (lenOf pd_7 rfl) rfl (by show 2 * 0 + _ ≤ _; exact Nat.le_of_eq rfl) (hb hby d13_16) (fun _ _ => ⟨rfl, e4, (by decide : 2 + 2 ≤ _), (by decide : 3 + 32 ≤ _)⟩)
  dsimp only [Pt.U, Pt.locs, Pt.cells, Pt.slots] at X5 l5 y5 z5 st5 hQ5
  subst l5 y5 z5
  obtain ⟨rfl, Nq5, K5⟩ := hQ5
  obtain ⟨Lo5, X5, N5⟩ : ∃ K, Stand p l e R13 s m #[(.ref a1), (.ref a2)] below meth c T5 K 4 35 ∧ Fr n0 K := ⟨_, X5, (Fr.app N3 Nq5)⟩
  refine own_jumpW (f' := (mkF m 19 #[.val (.ref a1), .val (.ref a2)] [(.ref b4), (.ref a1)])) st5 ?_
  obtain ⟨T6, h6, X6, e6, W6, st6⟩ := putF X5 hx hZ hown (host := "") (Or.inl (own_w92 hw)) Via.refl rfl ((((F_literalNames_a1.ext E2).other W3 (Or.inr (Jvm.RoadKit.slot_ne (Or.inr (own_w93 hw)) (Or.inl (own_w77 hw)) (by decide) own_fd_12 own_fd_0))).ext E4).keep K5 (ninS ne_a1_b4 nin0)) ((((E_a1.ext E2).wr W3).ext E4).keep K5) (Or.inr ⟨(own_w93 hw), rfl, hnm⟩) (own_w70 hw) own_fd_12 rfl rfl (g := (mkF m 19 #[.val (.ref a1), .val (.ref a2)] [(.ref b4), (.ref a1)])) rfl rfl (hb hby d13_19)
  obtain ⟨Lo6, X6, N6⟩ : ∃ K, Stand p l e R13 s m #[(.ref a1), (.ref a2)] below meth c T6 K 4 35 ∧ Fr n0 K := ⟨_, X6, (Fr.snoc X6 N5 g_a1)⟩
  refine own_stepW (f' := (mkF m 22 #[.val (.ref a1), .val (.ref a2)] [])) st6 ?_
  refine own_stepW (f' := (mkF m 23 #[.val (.ref a1), .val (.ref a2)] [(.ref a1)])) (fun _ k => XS.aloadN X6.here hx rfl (hb hby d13_22) rfl rfl k) ?_
  refine own_stepW (f' := (mkF m 24 #[.val (.ref a1), .val (.ref a2)] [.null, (.ref a1)])) (fun _ k => XS.aconstNull X6.here hx rfl (hb hby d13_23) k) ?_
  obtain ⟨T7, h7, X7, e7, W7, st7⟩ := putF X6 hx hZ hown (host := "") (Or.inl (own_w94 hw)) Via.refl e6 (((((F_source_a1.ext E2).other W3 (Or.inr (Jvm.RoadKit.slot_ne (Or.inr (own_w95 hw)) (Or.inl (own_w77 hw)) (by decide) own_fd_13 own_fd_0))).ext E4).keep K5 (ninS ne_a1_b4 nin0)).other W6 (Or.inr (Jvm.RoadKit.slot_ne (Or.inr (own_w95 hw)) (Or.inr (own_w93 hw)) (by decide) own_fd_13 own_fd_12))) (((((E_a1.ext E2).wr W3).ext E4).keep K5).wr W6) (Or.inr ⟨(own_w95 hw), rfl, hnm⟩) (own_w70 hw) own_fd_13 rfl rfl (g := (mkF m 24 #[.val (.ref a1), .val (.ref a2)] [.null, (.ref a1)])) rfl rfl (hb hby d13_24)
  obtain ⟨Lo7, X7, N7⟩ : ∃ K, Stand p l e R13 s m #[(.ref a1), (.ref a2)] below meth c T7 K 4 35 ∧ Fr n0 K := ⟨_, X7, (Fr.snoc X7 N6 g_a1)⟩
  refine own_stepW (f' := (mkF m 27 #[.val (.ref a1), .val (.ref a2)] [])) st7 ?_
  refine own_stepW (f' := (mkF m 28 #[.val (.ref a1), .val (.ref a2)] [(.ref a1)])) (fun _ k => XS.aloadN X7.here hx rfl (hb hby d13_27) rfl rfl k) ?_
  refine own_stepW (f' := (mkF m 29 #[.val (.ref a1), .val (.ref a2)] [(.ref a2), (.ref a1)])) (fun _ k => XS.aloadN X7.here hx rfl (hb hby d13_28) rfl rfl k) ?_
  obtain ⟨T8, h8, X8, e8, W8, st8⟩ := putF X7 hx hZ hown (host := "") (Or.inl (own_w96 hw)) Via.refl e7 ((((((F_bytes_a1.ext E2).other W3 (Or.inr (Jvm.RoadKit.slot_ne (Or.inl (own_w97 hw)) (Or.inl (own_w77 hw)) (by decide) own_fd_0 own_fd_0))).ext E4).keep K5 (ninS ne_a1_b4 nin0)).other W6 (Or.inr (Jvm.RoadKit.slot_ne (Or.inl (own_w97 hw)) (Or.inr (own_w93 hw)) (by decide) own_fd_0 own_fd_12))).other W7 (Or.inr (Jvm.RoadKit.slot_ne (Or.inl (own_w97 hw)) (Or.inr (own_w95 hw)) (by decide) own_fd_0 own_fd_13))) ((((((E_a1.ext E2).wr W3).ext E4).keep K5).wr W6).wr W7) (Or.inl (own_w97 hw)) (own_w70 hw) own_fd_0 rfl rfl (g := (mkF m 29 #[.val (.ref a1), .val (.ref a2)] [(.ref a2), (.ref a1)])) rfl rfl (hb hby d13_29)
  obtain ⟨Lo8, X8, N8⟩ : ∃ K, Stand p l e R13 s m #[(.ref a1), (.ref a2)] below meth c T8 K 4 35 ∧ Fr n0 K := ⟨_, X8, (Fr.snoc X8 N7 g_a1)⟩
  refine own_stepW (f' := (mkF m 32 #[.val (.ref a1), .val (.ref a2)] [])) st8 ?_
  refine own_stepW (f' := (mkF m 33 #[.val (.ref a1), .val (.ref a2)] [(.ref a1)])) (fun _ k => XS.aloadN X8.here hx rfl (hb hby d13_32) rfl rfl k) ?_
  refine own_stepW (f' := (mkF m 34 #[.val (.ref a1), .val (.ref a2)] [(.ref a2), (.ref a1)])) (fun _ k => XS.aloadN X8.here hx rfl (hb hby d13_33) rfl rfl k) ?_
  obtain ⟨cl9, Ar9, qa9, Sa9, Na9, Ha9, Ga9⟩ := id ((((((((V_a2.ext E2).other W3 (Ne.symm ne_a1_a2)).ext E4).keep K5 (ninS ne_a2_b4 nin0)).other W6 (Ne.symm ne_a1_a2)).other W7 (Ne.symm ne_a1_a2)).other W8 (Ne.symm ne_a1_a2)))
  refine own_stepW (f' := (mkF m 35 #[.val (.ref a1), .val (.ref a2)] [(.int (0 : Int32)), (.ref a1)])) (fun _ k => X8.arraylength hx (by rw [e8]; exact Ar9.1) (State.isArrayOf_alike hZ.alike Ar9.2.1) (g := (mkF m 34 #[.val (.ref a1), .val (.ref a2)] [(.ref a2), (.ref a1)])) rfl rfl (hb hby d13_34) _ (by rw [len_of Sa9 Na9]; exact k)) ?_
  obtain ⟨T10, h10, X10, e10, W10, st10⟩ := putF X8 hx hZ hown (host := "") (Or.inl (own_w98 hw)) Via.refl e8 (((((((F_limit_a1.ext E2).other W3 (Or.inr (Jvm.RoadKit.slot_ne (Or.inl (own_w99 hw)) (Or.inl (own_w77 hw)) (by decide) own_fd_2 own_fd_0))).ext E4).keep K5 (ninS ne_a1_b4 nin0)).other W6 (Or.inr (Jvm.RoadKit.slot_ne (Or.inl (own_w99 hw)) (Or.inr (own_w93 hw)) (by decide) own_fd_2 own_fd_12))).other W7 (Or.inr (Jvm.RoadKit.slot_ne (Or.inl (own_w99 hw)) (Or.inr (own_w95 hw)) (by decide) own_fd_2 own_fd_13))).other W8 (Or.inr (Jvm.RoadKit.slot_ne (Or.inl (own_w99 hw)) (Or.inl (own_w97 hw)) (by decide) own_fd_2 own_fd_0))) (((((((E_a1.ext E2).wr W3).ext E4).keep K5).wr W6).wr W7).wr W8) (Or.inl (own_w99 hw)) (own_w70 hw) own_fd_2 rfl rfl (g := (mkF m 35 #[.val (.ref a1), .val (.ref a2)] [(.int (0 : Int32)), (.ref a1)])) rfl rfl (hb hby d13_35)
  obtain ⟨Lo10, X10, N10⟩ : ∃ K, Stand p l e R13 s m #[(.ref a1), (.ref a2)] below meth c T10 K 4 35 ∧ Fr n0 K := ⟨_, X10, (Fr.snoc X10 N8 g_a1)⟩
  refine own_stepW (f' := (mkF m 38 #[.val (.ref a1), .val (.ref a2)] [])) st10 ?_
  refine own_stepW (f' := (mkF m 39 #[.val (.ref a1), .val (.ref a2)] [(.ref a1)])) (fun _ k => XS.aloadN X10.here hx rfl (hb hby d13_38) rfl rfl k) ?_
  obtain ⟨b11, T11, h11, k11, X11, e11, E11, hS11, hk11, hZ11, hown11, st11⟩ := Jvm.RoadKit.ldcS (s := s) (show Stand p l e R13 (s.setVm s.vm) m #[(.ref a1), (.ref a2)] below meth c T10 Lo10 4 35 from X10) hx hZ hown (own_w100 hw) (own_atoms hw) e10 ((State.WarmedH.refl s).since 0) (Nat.zero_le _) (g := (mkF m 39 #[.val (.ref a1), .val (.ref a2)] [(.ref a1)])) rfl (hb hby d13_39) (n := 16) (by decide) (by decide) (by decide) (by decide)
  refine own_stepW (f' := (mkF m 41 #[.val (.ref a1), .val (.ref a2)] [(.ref b11), (.ref a1)])) st11 ?_
  obtain ⟨T12, h12, X12, e12, W12, st12⟩ := putF X11 hx hZ11 hown11 (host := "") (Or.inl (own_w103 hw)) Via.refl e11 (((((((((F_where_a1.ext E2).other W3 (Or.inr (Jvm.RoadKit.slot_ne (Or.inr (own_w104 hw)) (Or.inl (own_w77 hw)) (by decide) own_fd_3 own_fd_0))).ext E4).keep K5 (ninS ne_a1_b4 nin0)).other W6 (Or.inr (Jvm.RoadKit.slot_ne (Or.inr (own_w104 hw)) (Or.inr (own_w93 hw)) (by decide) own_fd_3 own_fd_12))).other W7 (Or.inr (Jvm.RoadKit.slot_ne (Or.inr (own_w104 hw)) (Or.inr (own_w95 hw)) (by decide) own_fd_3 own_fd_13))).other W8 (Or.inr (Jvm.RoadKit.slot_ne (Or.inr (own_w104 hw)) (Or.inl (own_w97 hw)) (by decide) own_fd_3 own_fd_0))).other W10 (Or.inr (Jvm.RoadKit.slot_ne (Or.inr (own_w104 hw)) (Or.inl (own_w99 hw)) (by decide) own_fd_3 own_fd_2))).ext E11) (((((((((E_a1.ext E2).wr W3).ext E4).keep K5).wr W6).wr W7).wr W8).wr W10).ext E11) (Or.inr ⟨(own_w104 hw), rfl, hnm⟩) (own_w70 hw) own_fd_3 rfl rfl (g := (mkF m 41 #[.val (.ref a1), .val (.ref a2)] [(.ref b11), (.ref a1)])) rfl rfl (hb hby d13_41)
  obtain ⟨Lo12, X12, N12⟩ : ∃ K, Stand p l e R13 (s.setVm T11.vm) m #[(.ref a1), (.ref a2)] below meth c T12 K 6 55 ∧ Fr n0 K := ⟨_, X12, (Fr.snoc X12 N10 g_a1)⟩
  refine own_stepW (f' := (mkF m 44 #[.val (.ref a1), .val (.ref a2)] [])) st12 ?_
  refine own_stepW (f' := (mkF m 45 #[.val (.ref a1), .val (.ref a2)] [(.ref a1)])) (fun _ k => XS.aloadN X12.here hx rfl (hb hby d13_44) rfl rfl k) ?_
  obtain ⟨b13, T13, h13, k13, X13, e13, E13, hS13, hk13, hZ13, hown13, st13⟩ := Jvm.RoadKit.ldcS (s := s) X12 hx hZ11 hown11 (own_w105 hw) (own_atoms hw) e12 hS11 (Nat.le_trans hk11 (Nat.le_of_eq W12.size.symm)) (g := (mkF m 45 #[.val (.ref a1), .val (.ref a2)] [(.ref a1)])) rfl (hb hby d13_45) (n := 24) (by decide) (by decide) (by decide) (by decide)
  refine own_stepW (f' := (mkF m 47 #[.val (.ref a1), .val (.ref a2)] [(.ref b13), (.ref a1)])) st13 ?_
  obtain ⟨T14, h14, X14, e14, W14, st14⟩ := putF X13 hx hZ13 hown13 (host := "") (Or.inl (own_w106 hw)) Via.refl e13 (((((((((((F_what_a1.ext E2).other W3 (Or.inr (Jvm.RoadKit.slot_ne (Or.inr (own_w107 hw)) (Or.inl (own_w77 hw)) (by decide) own_fd_3 own_fd_0))).ext E4).keep K5 (ninS ne_a1_b4 nin0)).other W6 (Or.inr (Jvm.RoadKit.slot_ne (Or.inr (own_w107 hw)) (Or.inr (own_w93 hw)) (by decide) own_fd_3 own_fd_12))).other W7 (Or.inr (Jvm.RoadKit.slot_ne (Or.inr (own_w107 hw)) (Or.inr (own_w95 hw)) (by decide) own_fd_3 own_fd_13))).other W8 (Or.inr (Jvm.RoadKit.slot_ne (Or.inr (own_w107 hw)) (Or.inl (own_w97 hw)) (by decide) own_fd_3 own_fd_0))).other W10 (Or.inr (Jvm.RoadKit.slot_ne (Or.inr (own_w107 hw)) (Or.inl (own_w99 hw)) (by decide) own_fd_3 own_fd_2))).ext E11).other W12 (Or.inr (Jvm.RoadKit.slot_ne (Or.inr (own_w107 hw)) (Or.inr (own_w104 hw)) (by decide) own_fd_3 own_fd_3))).ext E13) (((((((((((E_a1.ext E2).wr W3).ext E4).keep K5).wr W6).wr W7).wr W8).wr W10).ext E11).wr W12).ext E13) (Or.inr ⟨(own_w107 hw), rfl, hnm⟩) (own_w70 hw) own_fd_3 rfl rfl (g := (mkF m 47 #[.val (.ref a1), .val (.ref a2)] [(.ref b13), (.ref a1)])) rfl rfl (hb hby d13_47)
  obtain ⟨Lo14, X14, N14⟩ : ∃ K, Stand p l e R13 (s.setVm T13.vm) m #[(.ref a1), (.ref a2)] below meth c T14 K 8 83 ∧ Fr n0 K := ⟨_, X14, (Fr.snoc X14 N12 g_a1)⟩
  refine own_stepW (f' := (mkF m 50 #[.val (.ref a1), .val (.ref a2)] [])) st14 ?_
  refine own_stepW (f' := (mkF m 51 #[.val (.ref a1), .val (.ref a2)] [(.ref a1)])) (fun _ k => XS.aloadN X14.here hx rfl (hb hby d13_50) rfl rfl k) ?_
  refine own_stepW (f' := (mkF m 52 #[.val (.ref a1), .val (.ref a2)] [(.ref a1), (.ref a1)])) (fun _ k => XS.aloadN X14.here hx rfl (hb hby d13_51) rfl rfl k) ?_
  obtain ⟨T15, h15, X15, e15, W15, st15⟩ := putF X14 hx hZ13 hown13 (host := "") (Or.inl (own_w108 hw)) Via.refl e14 ((((((((((((F_header_a1.ext E2).other W3 (Or.inr (Jvm.RoadKit.slot_ne (Or.inr (own_w109 hw)) (Or.inl (own_w77 hw)) (by decide) own_fd_14 own_fd_0))).ext E4).keep K5 (ninS ne_a1_b4 nin0)).other W6 (Or.inr (Jvm.RoadKit.slot_ne (Or.inr (own_w109 hw)) (Or.inr (own_w93 hw)) (by decide) own_fd_14 own_fd_12))).other W7 (Or.inr (Jvm.RoadKit.slot_ne (Or.inr (own_w109 hw)) (Or.inr (own_w95 hw)) (by decide) own_fd_14 own_fd_13))).other W8 (Or.inr (Jvm.RoadKit.slot_ne (Or.inr (own_w109 hw)) (Or.inl (own_w97 hw)) (by decide) own_fd_14 own_fd_0))).other W10 (Or.inr (Jvm.RoadKit.slot_ne (Or.inr (own_w109 hw)) (Or.inl (own_w99 hw)) (by decide) own_fd_14 own_fd_2))).ext E11).other W12 (Or.inr (Jvm.RoadKit.slot_ne (Or.inr (own_w109 hw)) (Or.inr (own_w104 hw)) (by decide) own_fd_14 own_fd_3))).ext E13).other W14 (Or.inr (Jvm.RoadKit.slot_ne (Or.inr (own_w109 hw)) (Or.inr (own_w107 hw)) (by decide) own_fd_14 own_fd_3))) ((((((((((((E_a1.ext E2).wr W3).ext E4).keep K5).wr W6).wr W7).wr W8).wr W10).ext E11).wr W12).ext E13).wr W14) (Or.inr ⟨(own_w109 hw), rfl, hnm⟩) (own_w70 hw) own_fd_14 rfl rfl (g := (mkF m 52 #[.val (.ref a1), .val (.ref a2)] [(.ref a1), (.ref a1)])) rfl rfl (hb hby d13_52)
  obtain ⟨Lo15, X15, N15⟩ : ∃ K, Stand p l e R13 (s.setVm T13.vm) m #[(.ref a1), (.ref a2)] below meth c T15 K 8 83 ∧ Fr n0 K := ⟨_, X15, (Fr.snoc X15 N14 g_a1)⟩
  refine own_stepW (f' := (mkF m 55 #[.val (.ref a1), .val (.ref a2)] [])) st15 ?_
  refine own_outW (v := none) X15 hS13 (by rw [e15]; exact (Nat.le_trans (Nat.le_trans hk13 (Nat.le_of_eq W14.size.symm)) (Nat.le_of_eq W15.size.symm))) hlk (fun _ => rfl) (fun fs hr => X15.returnOut hx Bd.returns (hb hby d13_55) hr) (by decide) (by decide) ?_
  rw [e15]
  exact ⟨rfl, N15, ((((((((((((((Keep.refl h0 [a1]).ext E2).wr W3 (Or.inl (List.mem_of_getElem? (i := 0) rfl))).ext E4).trans K5 (allS (Or.inr sz_b4) all0)).wr W6 (Or.inl (List.mem_of_getElem? (i := 0) rfl))).wr W7 (Or.inl (List.mem_of_getElem? (i := 0) rfl))).wr W8 (Or.inl (List.mem_of_getElem? (i := 0) rfl))).wr W10 (Or.inl (List.mem_of_getElem? (i := 0) rfl))).ext E11).wr W12 (Or.inl (List.mem_of_getElem? (i := 0) rfl))).ext E13).wr W14 (Or.inl (List.mem_of_getElem? (i := 0) rfl))).wr W15 (Or.inl (List.mem_of_getElem? (i := 0) rfl))), (((((((((((((F_bytes_a1.ext E2).other W3 (Or.inr (Jvm.RoadKit.slot_ne (Or.inl (own_w97 hw)) (Or.inl (own_w77 hw)) (by decide) own_fd_0 own_fd_0))).ext E4).keep K5 (ninS ne_a1_b4 nin0)).other W6 (Or.inr (Jvm.RoadKit.slot_ne (Or.inl (own_w97 hw)) (Or.inr (own_w93 hw)) (by decide) own_fd_0 own_fd_12))).other W7 (Or.inr (Jvm.RoadKit.slot_ne (Or.inl (own_w97 hw)) (Or.inr (own_w95 hw)) (by decide) own_fd_0 own_fd_13))).same W8).other W10 (Or.inr (Jvm.RoadKit.slot_ne (Or.inl (own_w97 hw)) (Or.inl (own_w99 hw)) (by decide) own_fd_0 own_fd_2))).ext E11).other W12 (Or.inr (Jvm.RoadKit.slot_ne (Or.inl (own_w97 hw)) (Or.inr (own_w104 hw)) (by decide) own_fd_0 own_fd_3))).ext E13).other W14 (Or.inr (Jvm.RoadKit.slot_ne (Or.inl (own_w97 hw)) (Or.inr (own_w107 hw)) (by decide) own_fd_0 own_fd_3))).other W15 (Or.inr (Jvm.RoadKit.slot_ne (Or.inl (own_w97 hw)) (Or.inr (own_w109 hw)) (by decide) own_fd_0 own_fd_14))), (((((((((((((F_limit_a1.ext E2).other W3 (Or.inr (Jvm.RoadKit.slot_ne (Or.inl (own_w99 hw)) (Or.inl (own_w77 hw)) (by decide) own_fd_2 own_fd_0))).ext E4).keep K5 (ninS ne_a1_b4 nin0)).other W6 (Or.inr (Jvm.RoadKit.slot_ne (Or.inl (own_w99 hw)) (Or.inr (own_w93 hw)) (by decide) own_fd_2 own_fd_12))).other W7 (Or.inr (Jvm.RoadKit.slot_ne (Or.inl (own_w99 hw)) (Or.inr (own_w95 hw)) (by decide) own_fd_2 own_fd_13))).other W8 (Or.inr (Jvm.RoadKit.slot_ne (Or.inl (own_w99 hw)) (Or.inl (own_w97 hw)) (by decide) own_fd_2 own_fd_0))).same W10).ext E11).other W12 (Or.inr (Jvm.RoadKit.slot_ne (Or.inl (own_w99 hw)) (Or.inr (own_w104 hw)) (by decide) own_fd_2 own_fd_3))).ext E13).other W14 (Or.inr (Jvm.RoadKit.slot_ne (Or.inl (own_w99 hw)) (Or.inr (own_w107 hw)) (by decide) own_fd_2 own_fd_3))).other W15 (Or.inr (Jvm.RoadKit.slot_ne (Or.inl (own_w99 hw)) (Or.inr (own_w109 hw)) (by decide) own_fd_2 own_fd_14))), (((((((((((((F_pos_a1.ext E2).other W3 (Or.inr (Jvm.RoadKit.slot_ne (Or.inl (own_w123 hw)) (Or.inl (own_w77 hw)) (by decide) own_fd_2 own_fd_0))).ext E4).keep K5 (ninS ne_a1_b4 nin0)).other W6 (Or.inr (Jvm.RoadKit.slot_ne (Or.inl (own_w123 hw)) (Or.inr (own_w93 hw)) (by decide) own_fd_2 own_fd_12))).other W7 (Or.inr (Jvm.RoadKit.slot_ne (Or.inl (own_w123 hw)) (Or.inr (own_w95 hw)) (by decide) own_fd_2 own_fd_13))).other W8 (Or.inr (Jvm.RoadKit.slot_ne (Or.inl (own_w123 hw)) (Or.inl (own_w97 hw)) (by decide) own_fd_2 own_fd_0))).other W10 (Or.inr (Jvm.RoadKit.slot_ne (Or.inl (own_w123 hw)) (Or.inl (own_w99 hw)) (by decide) own_fd_2 own_fd_2))).ext E11).other W12 (Or.inr (Jvm.RoadKit.slot_ne (Or.inl (own_w123 hw)) (Or.inr (own_w104 hw)) (by decide) own_fd_2 own_fd_3))).ext E13).other W14 (Or.inr (Jvm.RoadKit.slot_ne (Or.inl (own_w123 hw)) (Or.inr (own_w107 hw)) (by decide) own_fd_2 own_fd_3))).other W15 (Or.inr (Jvm.RoadKit.slot_ne (Or.inl (own_w123 hw)) (Or.inr (own_w109 hw)) (by decide) own_fd_2 own_fd_14))), (((((((((((((F_offset_a1.ext E2).other W3 (Or.inr (Jvm.RoadKit.slot_ne (Or.inl (own_w121 hw)) (Or.inl (own_w77 hw)) (by decide) own_fd_6 own_fd_0))).ext E4).keep K5 (ninS ne_a1_b4 nin0)).other W6 (Or.inr (Jvm.RoadKit.slot_ne (Or.inl (own_w121 hw)) (Or.inr (own_w93 hw)) (by decide) own_fd_6 own_fd_12))).other W7 (Or.inr (Jvm.RoadKit.slot_ne (Or.inl (own_w121 hw)) (Or.inr (own_w95 hw)) (by decide) own_fd_6 own_fd_13))).other W8 (Or.inr (Jvm.RoadKit.slot_ne (Or.inl (own_w121 hw)) (Or.inl (own_w97 hw)) (by decide) own_fd_6 own_fd_0))).other W10 (Or.inr (Jvm.RoadKit.slot_ne (Or.inl (own_w121 hw)) (Or.inl (own_w99 hw)) (by decide) own_fd_6 own_fd_2))).ext E11).other W12 (Or.inr (Jvm.RoadKit.slot_ne (Or.inl (own_w121 hw)) (Or.inr (own_w104 hw)) (by decide) own_fd_6 own_fd_3))).ext E13).other W14 (Or.inr (Jvm.RoadKit.slot_ne (Or.inl (own_w121 hw)) (Or.inr (own_w107 hw)) (by decide) own_fd_6 own_fd_3))).other W15 (Or.inr (Jvm.RoadKit.slot_ne (Or.inl (own_w121 hw)) (Or.inr (own_w109 hw)) (by decide) own_fd_6 own_fd_14))), (((((((((((((F_attributePage_a1.ext E2).other W3 (Or.inr (Jvm.RoadKit.slot_ne (Or.inl (own_w139 hw)) (Or.inl (own_w77 hw)) (by decide) own_fd_2 own_fd_0))).ext E4).keep K5 (ninS ne_a1_b4 nin0)).other W6 (Or.inr (Jvm.RoadKit.slot_ne (Or.inl (own_w139 hw)) (Or.inr (own_w93 hw)) (by decide) own_fd_2 own_fd_12))).other W7 (Or.inr (Jvm.RoadKit.slot_ne (Or.inl (own_w139 hw)) (Or.inr (own_w95 hw)) (by decide) own_fd_2 own_fd_13))).other W8 (Or.inr (Jvm.RoadKit.slot_ne (Or.inl (own_w139 hw)) (Or.inl (own_w97 hw)) (by decide) own_fd_2 own_fd_0))).other W10 (Or.inr (Jvm.RoadKit.slot_ne (Or.inl (own_w139 hw)) (Or.inl (own_w99 hw)) (by decide) own_fd_2 own_fd_2))).ext E11).other W12 (Or.inr (Jvm.RoadKit.slot_ne (Or.inl (own_w139 hw)) (Or.inr (own_w104 hw)) (by decide) own_fd_2 own_fd_3))).ext E13).other W14 (Or.inr (Jvm.RoadKit.slot_ne (Or.inl (own_w139 hw)) (Or.inr (own_w107 hw)) (by decide) own_fd_2 own_fd_3))).other W15 (Or.inr (Jvm.RoadKit.slot_ne (Or.inl (own_w139 hw)) (Or.inr (own_w109 hw)) (by decide) own_fd_2 own_fd_14)))⟩
theorem own_k256 (x : Int32) : ∃ k : Fin 256, (x &&& (255 : Int32)) = Int32.ofNat k.val := by
  have h1 := c_mask x 255 8 (by decide) (by decide)
  refine ⟨⟨(x &&& (255 : Int32)).toInt.toNat, by omega⟩, ?_⟩
  apply Int32.toInt_inj.mp
  rw [Int32.toInt_ofNat_of_lt (by show (x &&& (255 : Int32)).toInt.toNat < _; omega)]
  show _ = (((x &&& (255 : Int32)).toInt.toNat : Nat) : Int)
  omega
theorem own_d256 : ∀ k : Fin 256, ¬ (255 : Int32) < (Int32.ofNat k.val).toUInt32.toUInt16.toUInt32.toInt32 ∧ ¬ (255 : Int32) < nar .char (Int32.ofNat k.val).toUInt32.toUInt16.toUInt32.toInt32 := by decide +kernel
theorem own_c255 (x : Int32) : ¬ (255 : Int32) < (x &&& (255 : Int32)).toUInt32.toUInt16.toUInt32.toInt32 := by
  obtain ⟨k, hk⟩ := own_k256 x
  rw [hk]; exact (own_d256 k).1
theorem own_n255 (x : Int32) : ¬ (255 : Int32) < nar .char (x &&& (255 : Int32)).toUInt32.toUInt16.toUInt32.toInt32 := by
  obtain ⟨k, hk⟩ := own_k256 x
  rw [hk]; exact (own_d256 k).2
theorem own_n4 (x nn : Int32) (h : nn = (x &&& (3 : Int32))) : nn = (0 : Int32) ∨ nn = (1 : Int32) ∨ nn = (2 : Int32) ∨ nn = (3 : Int32) := by
  have h1 := c_mask x 3 2 (by decide) (by decide)
  rw [← h] at h1
  have e0 : (0 : Int32).toInt = 0 := by decide
  have e1 : (1 : Int32).toInt = 1 := by decide
  have e2 : (2 : Int32).toInt = 2 := by decide
  have e3 : (3 : Int32).toInt = 3 := by decide
  simp only [← Int32.toInt_inj]
  omega
theorem own_addF' {k : Nat} {ns ws : List Value} {a : Addr} {v : Value} (h : k = 16) : own_add (true, k, ns, ws) a v = (false, k, ns, ws) := if_pos h
theorem own_addN {k : Nat} {ns ws : List Value} {a : Addr} {v : Value} : own_add (false, k, ns, ws) a v = (false, k, ns, ws) := rfl
def own_R (v : Value) (k : Nat) : List Value := List.replicate k v ++ List.replicate (16 - k) .null
theorem own_Rs (v : Value) : ∀ k, k < 16 → (own_R v k).set k v = own_R v (k + 1)
  | 0, _ => rfl
  | 1, _ => rfl
  | 2, _ => rfl
  | 3, _ => rfl
  | 4, _ => rfl
  | 5, _ => rfl
  | 6, _ => rfl
  | 7, _ => rfl
  | 8, _ => rfl
  | 9, _ => rfl
  | 10, _ => rfl
  | 11, _ => rfl
  | 12, _ => rfl
  | 13, _ => rfl
  | 14, _ => rfl
  | 15, _ => rfl
  | n + 16, h => absurd h (by omega)
theorem own_addR {k : Nat} {a : Addr} {v : Value} (h : k < 16) : own_add (true, k, own_R (.ref a) k, own_R v k) a v = (true, k + 1, own_R (.ref a) (k + 1), own_R v (k + 1)) := by rw [own_addT (by omega), own_Rs _ _ h, own_Rs _ _ h]
theorem own_b0 (x : Addr) (u : Value) : own_four (own_four (own_four (own_four own_s0 x u) x u) x u) x u = (true, 16, own_R (.ref x) 16, own_R u 16) := by
  simp only [own_four]
  rw [show own_s0 = (true, 0, own_R (.ref x) 0, own_R u 0) from rfl, own_addR, own_addR, own_addR, own_addR, own_addR, own_addR, own_addR, own_addR, own_addR, own_addR, own_addR, own_addR, own_addR, own_addR, own_addR, own_addR] <;> omega
theorem own_b1 (x : Addr) (u : Value) (ns ws : List Value) : (own_four (own_four (own_four (own_four (true, 1, ns, ws) x u) x u) x u) x u).1 = false := by
  simp only [own_four]
  rw [own_addT, own_addT, own_addT, own_addT, own_addT, own_addT, own_addT, own_addT, own_addT, own_addT, own_addT, own_addT, own_addT, own_addT, own_addT, own_addF'] <;> omega
theorem own_b2 (x : Addr) (u : Value) (ns ws : List Value) : (own_four (own_four (own_four (own_four (true, 2, ns, ws) x u) x u) x u) x u).1 = false := by
  simp only [own_four]
  rw [own_addT, own_addT, own_addT, own_addT, own_addT, own_addT, own_addT, own_addT, own_addT, own_addT, own_addT, own_addT, own_addT, own_addT, own_addF', own_addN] <;> omega
theorem own_b3 (x : Addr) (u : Value) (ns ws : List Value) : (own_four (own_four (own_four (own_four (true, 3, ns, ws) x u) x u) x u) x u).1 = false := by
  simp only [own_four]
  rw [own_addT, own_addT, own_addT, own_addT, own_addT, own_addT, own_addT, own_addT, own_addT, own_addT, own_addT, own_addT, own_addT, own_addF', own_addN, own_addN] <;> omega
theorem own_fin {nn bk : Int32} {s1 s2 s3 s4 : own_St} {x y z : Addr} {u v w : Value} (hn : nn = (0 : Int32) ∨ nn = (1 : Int32) ∨ nn = (2 : Int32) ∨ nn = (3 : Int32)) (hb : bk = (0 : Int32) ∨ bk = (1 : Int32))
    (h1 : s1 = (if (0 : Int32) < nn then (own_add own_s0 x u) else own_s0)) (h2 : s2 = (if (1 : Int32) < nn then (own_add s1 y v) else s1)) (h3 : s3 = (if (2 : Int32) < nn then (own_add s2 z w) else s2)) (h4 : s4 = (if bk = (0 : Int32) then s3 else (own_four (own_four (own_four (own_four s3 x u) x u) x u) x u))) :
    (s4.1 = true ∧ ((nn = (0 : Int32) ∧ bk = (0 : Int32) ∧ s4.2.1 = 0) ∨ (nn = (1 : Int32) ∧ bk = (0 : Int32) ∧ s4.2.1 = 1 ∧ s4.2.2.1.getD 0 .null = .ref x ∧ s4.2.2.2.getD 0 .null = u) ∨ (nn = (2 : Int32) ∧ bk = (0 : Int32) ∧ s4.2.1 = 2 ∧ s4.2.2.1.getD 0 .null = .ref x ∧ s4.2.2.2.getD 0 .null = u ∧ s4.2.2.1.getD 1 .null = .ref y ∧ s4.2.2.2.getD 1 .null = v) ∨ (nn = (3 : Int32) ∧ bk = (0 : Int32) ∧ s4.2.1 = 3 ∧ s4.2.2.1.getD 0 .null = .ref x ∧ s4.2.2.2.getD 0 .null = u ∧ s4.2.2.1.getD 1 .null = .ref y ∧ s4.2.2.2.getD 1 .null = v ∧ s4.2.2.1.getD 2 .null = .ref z ∧ s4.2.2.2.getD 2 .null = w) ∨ (nn = (0 : Int32) ∧ bk = (1 : Int32) ∧ s4.2.1 = 16 ∧ s4.2.2.1.getD 0 .null = .ref x ∧ s4.2.2.2.getD 0 .null = u ∧ s4.2.2.1.getD 7 .null = .ref x ∧ s4.2.2.2.getD 7 .null = u ∧ s4.2.2.1.getD 15 .null = .ref x ∧ s4.2.2.2.getD 15 .null = u))) ∨ (s4.1 = false ∧ (nn = (1 : Int32) ∨ nn = (2 : Int32) ∨ nn = (3 : Int32)) ∧ bk = (1 : Int32)) := by
  rcases hn with rfl | rfl | rfl | rfl
  · rw [if_neg (show ¬ (0 : Int32) < (0 : Int32) by decide)] at h1
    rw [if_neg (show ¬ (1 : Int32) < (0 : Int32) by decide)] at h2
    rw [if_neg (show ¬ (2 : Int32) < (0 : Int32) by decide)] at h3
    subst h1 h2 h3
    rcases hb with rfl | rfl
    · rw [if_pos (show (0 : Int32) = (0 : Int32) by decide)] at h4
      subst h4
      exact Or.inl ⟨rfl, Or.inl (⟨rfl, rfl, rfl⟩)⟩
    · rw [if_neg (show ¬ (1 : Int32) = (0 : Int32) by decide)] at h4
      subst h4
      rw [own_b0]
      exact Or.inl ⟨rfl, Or.inr (Or.inr (Or.inr (Or.inr (⟨rfl, rfl, rfl, rfl, rfl, rfl, rfl, rfl, rfl⟩))))⟩
  · rw [if_pos (show (0 : Int32) < (1 : Int32) by decide)] at h1
    rw [if_neg (show ¬ (1 : Int32) < (1 : Int32) by decide)] at h2
    rw [if_neg (show ¬ (2 : Int32) < (1 : Int32) by decide)] at h3
    subst h1 h2 h3
    rcases hb with rfl | rfl
    · rw [if_pos (show (0 : Int32) = (0 : Int32) by decide)] at h4
      subst h4
      exact Or.inl ⟨rfl, Or.inr (Or.inl (⟨rfl, rfl, rfl, rfl, rfl⟩))⟩
    · rw [if_neg (show ¬ (1 : Int32) = (0 : Int32) by decide)] at h4
      subst h4
      exact Or.inr ⟨own_b1 _ _ _ _, Or.inl (rfl), rfl⟩
  · rw [if_pos (show (0 : Int32) < (2 : Int32) by decide)] at h1
    rw [if_pos (show (1 : Int32) < (2 : Int32) by decide)] at h2
    rw [if_neg (show ¬ (2 : Int32) < (2 : Int32) by decide)] at h3
    subst h1 h2 h3
    rcases hb with rfl | rfl
    · rw [if_pos (show (0 : Int32) = (0 : Int32) by decide)] at h4
      subst h4
      exact Or.inl ⟨rfl, Or.inr (Or.inr (Or.inl (⟨rfl, rfl, rfl, rfl, rfl, rfl, rfl⟩)))⟩
    · rw [if_neg (show ¬ (1 : Int32) = (0 : Int32) by decide)] at h4
      subst h4
      exact Or.inr ⟨own_b2 _ _ _ _, Or.inr (Or.inl (rfl)), rfl⟩
  · rw [if_pos (show (0 : Int32) < (3 : Int32) by decide)] at h1
    rw [if_pos (show (1 : Int32) < (3 : Int32) by decide)] at h2
    rw [if_pos (show (2 : Int32) < (3 : Int32) by decide)] at h3
    subst h1 h2 h3
    rcases hb with rfl | rfl
    · rw [if_pos (show (0 : Int32) = (0 : Int32) by decide)] at h4
      subst h4
      exact Or.inl ⟨rfl, Or.inr (Or.inr (Or.inr (Or.inl (⟨rfl, rfl, rfl, rfl, rfl, rfl, rfl, rfl, rfl⟩))))⟩
    · rw [if_neg (show ¬ (1 : Int32) = (0 : Int32) by decide)] at h4
      subst h4
      exact Or.inr ⟨own_b3 _ _ _ _, Or.inr (Or.inr (rfl)), rfl⟩
abbrev own_G (m : MethodId) (i0 i1 i2 i3 i4 b n k : Int32) (x y z : Addr) (u v w : Value) (a s : Addr) (r q o : Slot) (pc : Nat) (S : List Value) : JFrame := mkF m pc #[.val (.int i0), .val (.int i1), .val (.int i2), .val (.int i3), .val (.int i4), .val (.int b), .val (.int n), .val (.int k), .val (.ref x), .val (.ref y), .val (.ref z), .val u, .val v, .val w, .val (.ref a), .val (.ref s), r, q, o] S
def Q0 (Z : State) (i0 : Int32) (i1 : Int32) (i2 : Int32) (i3 : Int32) (i4 : Int32) (cz : Int32) (h0 : Heap) (n0 : Nat) (v : Option Value) (h : Heap) (L : List Loc) : Prop := v = some (.int 1) ∧ Fr n0 L
theorem own_w0 {a0 Z} (hw : own_HW a0 Z) : (Cond.classLink "com/example/valbonne/valbonne/codec/AttributeCodingsAddPinLaw" (7 : Nat) "com/example/valbonne/valbonne/codec/Name").before a0 Z = true := own_at hw 0 rfl
theorem own_w2 {a0 Z} (hw : own_HW a0 Z) : (Cond.initialized "com/example/valbonne/valbonne/codec/Name").before a0 Z = true := own_at hw 2 rfl
theorem own_w3 {a0 Z} (hw : own_HW a0 Z) : (Cond.methodLink "com/example/valbonne/valbonne/codec/AttributeCodingsAddPinLaw" (9 : Nat) ⟨"java/lang/String", "valueOf", "(C)Ljava/lang/String;"⟩).before a0 Z = true := own_at hw 3 rfl
theorem own_w6 {a0 Z} (hw : own_HW a0 Z) : (Cond.code ⟨"java/lang/String", "valueOf", "(C)Ljava/lang/String;"⟩ jdk_42_method_139_code (1 : Nat) (some (FieldType.object "java/lang/String"))).before a0 Z = true := own_at hw 6 rfl
theorem pd_18 : parseMethodDescriptor "(C)Ljava/lang/String;" = some ⟨[.char], some (.object "java/lang/String")⟩ := by decide +kernel
theorem own_w4 {a0 Z} (hw : own_HW a0 Z) : (Cond.static ⟨"java/lang/String", "valueOf", "(C)Ljava/lang/String;"⟩).before a0 Z = true := own_at hw 4 rfl
theorem own_w29 {a0 Z} (hw : own_HW a0 Z) : (Cond.methodLink "com/example/valbonne/valbonne/codec/AttributeCodingsAddPinLaw" (15 : Nat) ⟨"com/example/valbonne/valbonne/codec/Name", "<init>", "(ILjava/lang/String;)V"⟩).before a0 Z = true := own_at hw 29 rfl
theorem own_w31 {a0 Z} (hw : own_HW a0 Z) : (Cond.code ⟨"com/example/valbonne/valbonne/codec/Name", "<init>", "(ILjava/lang/String;)V"⟩ prog_63_method_1_code (3 : Nat) none).before a0 Z = true := own_at hw 31 rfl
theorem pd_19 : parseMethodDescriptor "(ILjava/lang/String;)V" = some ⟨[.int, (.object "java/lang/String")], none⟩ := by decide +kernel
theorem own_w30 {a0 Z} (hw : own_HW a0 Z) : (Cond.instanceMethod ⟨"com/example/valbonne/valbonne/codec/Name", "<init>", "(ILjava/lang/String;)V"⟩).before a0 Z = true := own_at hw 30 rfl
theorem own_w37 {a0 Z} (hw : own_HW a0 Z) : (Cond.constant "com/example/valbonne/valbonne/codec/AttributeCodingsAddPinLaw" (18 : Nat) (16777216 : Int32)).before a0 Z = true := own_at hw 37 rfl
theorem own_w38 {a0 Z} (hw : own_HW a0 Z) : (Cond.classLink "com/example/valbonne/valbonne/codec/AttributeCodingsAddPinLaw" (10 : Nat) "java/lang/String").before a0 Z = true := own_at hw 38 rfl
theorem own_w39 {a0 Z} (hw : own_HW a0 Z) : (Cond.arrayClass FieldType.char).before a0 Z = true := own_at hw 39 rfl
theorem own_w40 {a0 Z} (hw : own_HW a0 Z) : (Cond.methodLink "com/example/valbonne/valbonne/codec/AttributeCodingsAddPinLaw" (19 : Nat) ⟨"java/lang/String", "<init>", "([C)V"⟩).before a0 Z = true := own_at hw 40 rfl
theorem own_w42 {a0 Z} (hw : own_HW a0 Z) : (Cond.code ⟨"java/lang/String", "<init>", "([C)V"⟩ jdk_42_method_3_code (2 : Nat) none).before a0 Z = true := own_at hw 42 rfl
theorem pd_20 : parseMethodDescriptor "([C)V" = some ⟨[(.array .char)], none⟩ := by decide +kernel
theorem own_w41 {a0 Z} (hw : own_HW a0 Z) : (Cond.instanceMethod ⟨"java/lang/String", "<init>", "([C)V"⟩).before a0 Z = true := own_at hw 41 rfl
theorem own_w56 {a0 Z} (hw : own_HW a0 Z) : (Cond.constant "com/example/valbonne/valbonne/codec/AttributeCodingsAddPinLaw" (22 : Nat) (33554432 : Int32)).before a0 Z = true := own_at hw 56 rfl
theorem own_w57 {a0 Z} (hw : own_HW a0 Z) : (Cond.constant "com/example/valbonne/valbonne/codec/AttributeCodingsAddPinLaw" (23 : Nat) (67108864 : Int32)).before a0 Z = true := own_at hw 57 rfl
theorem own_w58 {a0 Z} (hw : own_HW a0 Z) : (Cond.classLink "com/example/valbonne/valbonne/codec/AttributeCodingsAddPinLaw" (24 : Nat) "com/example/valbonne/valbonne/codec/AttributeCodings").before a0 Z = true := own_at hw 58 rfl
theorem own_w61 {a0 Z} (hw : own_HW a0 Z) : (Cond.methodLink "com/example/valbonne/valbonne/codec/AttributeCodingsAddPinLaw" (26 : Nat) ⟨"com/example/valbonne/valbonne/codec/AttributeCodings", "<init>", "()V"⟩).before a0 Z = true := own_at hw 61 rfl
theorem own_w63 {a0 Z} (hw : own_HW a0 Z) : (Cond.code ⟨"com/example/valbonne/valbonne/codec/AttributeCodings", "<init>", "()V"⟩ prog_11_method_1_code (1 : Nat) none).before a0 Z = true := own_at hw 63 rfl
theorem own_w62 {a0 Z} (hw : own_HW a0 Z) : (Cond.instanceMethod ⟨"com/example/valbonne/valbonne/codec/AttributeCodings", "<init>", "()V"⟩).before a0 Z = true := own_at hw 62 rfl
theorem own_w69 {a0 Z} (hw : own_HW a0 Z) : (Cond.classLink "com/example/valbonne/valbonne/codec/AttributeCodingsAddPinLaw" (27 : Nat) "com/example/valbonne/valbonne/codec/StreamInput").before a0 Z = true := own_at hw 69 rfl
theorem own_w72 {a0 Z} (hw : own_HW a0 Z) : (Cond.methodLink "com/example/valbonne/valbonne/codec/AttributeCodingsAddPinLaw" (29 : Nat) ⟨"com/example/valbonne/valbonne/codec/StreamInput", "<init>", "([B)V"⟩).before a0 Z = true := own_at hw 72 rfl
theorem own_w74 {a0 Z} (hw : own_HW a0 Z) : (Cond.code ⟨"com/example/valbonne/valbonne/codec/StreamInput", "<init>", "([B)V"⟩ prog_83_method_1_code (2 : Nat) none).before a0 Z = true := own_at hw 74 rfl
theorem pd_21 : parseMethodDescriptor "([B)V" = some ⟨[(.array .byte)], none⟩ := by decide +kernel
theorem own_w73 {a0 Z} (hw : own_HW a0 Z) : (Cond.instanceMethod ⟨"com/example/valbonne/valbonne/codec/StreamInput", "<init>", "([B)V"⟩).before a0 Z = true := own_at hw 73 rfl
theorem own_w241 {a0 Z} (hw : own_HW a0 Z) : (Cond.methodLink "com/example/valbonne/valbonne/codec/AttributeCodingsAddPinLaw" (40 : Nat) ⟨"com/example/valbonne/valbonne/codec/AttributeCodingsAddPinLaw", "addFour", "(Lcom/example/valbonne/valbonne/codec/AttributeCodings;Lcom/example/valbonne/valbonne/codec/Name;Ljava/lang/String;)V"⟩).before a0 Z = true := own_at hw 241 rfl
theorem own_w243 {a0 Z} (hw : own_HW a0 Z) : (Cond.code ⟨"com/example/valbonne/valbonne/codec/AttributeCodingsAddPinLaw", "addFour", "(Lcom/example/valbonne/valbonne/codec/AttributeCodings;Lcom/example/valbonne/valbonne/codec/Name;Ljava/lang/String;)V"⟩ method_3_code (3 : Nat) none).before a0 Z = true := own_at hw 243 rfl
theorem own_w229 {a0 Z} (hw : own_HW a0 Z) : (Cond.initialized "com/example/valbonne/valbonne/codec/AttributeCodingsAddPinLaw").before a0 Z = true := own_at hw 229 rfl
theorem pd_22 : parseMethodDescriptor "(Lcom/example/valbonne/valbonne/codec/AttributeCodings;Lcom/example/valbonne/valbonne/codec/Name;Ljava/lang/String;)V" = some ⟨[(.object "com/example/valbonne/valbonne/codec/AttributeCodings"), (.object "com/example/valbonne/valbonne/codec/Name"), (.object "java/lang/String")], none⟩ := by decide +kernel
theorem own_w242 {a0 Z} (hw : own_HW a0 Z) : (Cond.static ⟨"com/example/valbonne/valbonne/codec/AttributeCodingsAddPinLaw", "addFour", "(Lcom/example/valbonne/valbonne/codec/AttributeCodings;Lcom/example/valbonne/valbonne/codec/Name;Ljava/lang/String;)V"⟩).before a0 Z = true := own_at hw 242 rfl
theorem own_w110 {a0 Z} (hw : own_HW a0 Z) : (Cond.methodLink "com/example/valbonne/valbonne/codec/AttributeCodingsAddPinLaw" (46 : Nat) ⟨"com/example/valbonne/valbonne/codec/AttributeCodings", "end", "(Lcom/example/valbonne/valbonne/codec/StreamInput;)V"⟩).before a0 Z = true := own_at hw 110 rfl
theorem own_w114 {a0 Z} (hw : own_HW a0 Z) : (Cond.code ⟨"com/example/valbonne/valbonne/codec/AttributeCodings", "end", "(Lcom/example/valbonne/valbonne/codec/StreamInput;)V"⟩ prog_11_method_5_code (4 : Nat) none).before a0 Z = true := own_at hw 114 rfl
theorem pd_23 : parseMethodDescriptor "(Lcom/example/valbonne/valbonne/codec/StreamInput;)V" = some ⟨[(.object "com/example/valbonne/valbonne/codec/StreamInput")], none⟩ := by decide +kernel
theorem own_w113 {a0 Z} (hw : own_HW a0 Z) : (Cond.selects "com/example/valbonne/valbonne/codec/AttributeCodings" ⟨"com/example/valbonne/valbonne/codec/AttributeCodings", "end", "(Lcom/example/valbonne/valbonne/codec/StreamInput;)V"⟩ ⟨"com/example/valbonne/valbonne/codec/AttributeCodings", "end", "(Lcom/example/valbonne/valbonne/codec/StreamInput;)V"⟩).before a0 Z = true := own_at hw 113 rfl
theorem own_w111 {a0 Z} (hw : own_HW a0 Z) : (Cond.declares ⟨"com/example/valbonne/valbonne/codec/AttributeCodings", "end", "(Lcom/example/valbonne/valbonne/codec/StreamInput;)V"⟩).before a0 Z = true := own_at hw 111 rfl
theorem own_w112 {a0 Z} (hw : own_HW a0 Z) : (Cond.instanceMethod ⟨"com/example/valbonne/valbonne/codec/AttributeCodings", "end", "(Lcom/example/valbonne/valbonne/codec/StreamInput;)V"⟩).before a0 Z = true := own_at hw 112 rfl
theorem own_w128 {a0 Z} (hw : own_HW a0 Z) : (Cond.methodLink "com/example/valbonne/valbonne/codec/AttributeCodingsAddPinLaw" (50 : Nat) ⟨"com/example/valbonne/valbonne/codec/AttributeCodings", "readKnown", "(Lcom/example/valbonne/valbonne/codec/StreamInput;Lcom/example/valbonne/valbonne/codec/DeclaredAttributes;Z)Lcom/example/valbonne/valbonne/codec/AttributeCodings$Coding;"⟩).before a0 Z = true := own_at hw 128 rfl
theorem own_w132 {a0 Z} (hw : own_HW a0 Z) : (Cond.code ⟨"com/example/valbonne/valbonne/codec/AttributeCodings", "readKnown", "(Lcom/example/valbonne/valbonne/codec/StreamInput;Lcom/example/valbonne/valbonne/codec/DeclaredAttributes;Z)Lcom/example/valbonne/valbonne/codec/AttributeCodings$Coding;"⟩ prog_11_method_2_code (7 : Nat) (some (FieldType.object "com/example/valbonne/valbonne/codec/AttributeCodings$Coding"))).before a0 Z = true := own_at hw 132 rfl
theorem pd_24 : parseMethodDescriptor "(Lcom/example/valbonne/valbonne/codec/StreamInput;Lcom/example/valbonne/valbonne/codec/DeclaredAttributes;Z)Lcom/example/valbonne/valbonne/codec/AttributeCodings$Coding;" = some ⟨[(.object "com/example/valbonne/valbonne/codec/StreamInput"), (.object "com/example/valbonne/valbonne/codec/DeclaredAttributes"), .boolean], some (.object "com/example/valbonne/valbonne/codec/AttributeCodings$Coding")⟩ := by decide +kernel
theorem own_w131 {a0 Z} (hw : own_HW a0 Z) : (Cond.selects "com/example/valbonne/valbonne/codec/AttributeCodings" ⟨"com/example/valbonne/valbonne/codec/AttributeCodings", "readKnown", "(Lcom/example/valbonne/valbonne/codec/StreamInput;Lcom/example/valbonne/valbonne/codec/DeclaredAttributes;Z)Lcom/example/valbonne/valbonne/codec/AttributeCodings$Coding;"⟩ ⟨"com/example/valbonne/valbonne/codec/AttributeCodings", "readKnown", "(Lcom/example/valbonne/valbonne/codec/StreamInput;Lcom/example/valbonne/valbonne/codec/DeclaredAttributes;Z)Lcom/example/valbonne/valbonne/codec/AttributeCodings$Coding;"⟩).before a0 Z = true := own_at hw 131 rfl
theorem own_w129 {a0 Z} (hw : own_HW a0 Z) : (Cond.declares ⟨"com/example/valbonne/valbonne/codec/AttributeCodings", "readKnown", "(Lcom/example/valbonne/valbonne/codec/StreamInput;Lcom/example/valbonne/valbonne/codec/DeclaredAttributes;Z)Lcom/example/valbonne/valbonne/codec/AttributeCodings$Coding;"⟩).before a0 Z = true := own_at hw 129 rfl
theorem own_w130 {a0 Z} (hw : own_HW a0 Z) : (Cond.instanceMethod ⟨"com/example/valbonne/valbonne/codec/AttributeCodings", "readKnown", "(Lcom/example/valbonne/valbonne/codec/StreamInput;Lcom/example/valbonne/valbonne/codec/DeclaredAttributes;Z)Lcom/example/valbonne/valbonne/codec/AttributeCodings$Coding;"⟩).before a0 Z = true := own_at hw 130 rfl
set_option maxRecDepth 65536 in
set_option maxHeartbeats 40000000 in
theorem own_J229_40 (l : Launch) (Z : State) (a0 : Array Value) (hw : own_HW a0 Z) (h0 : Heap) (n0 : Nat) (p : Program) (e : Env) (s : State) (m : MethodId) (below : List Frame) (meth : Method) (c : Code) (hx : p.tables.exec = Jvm.exec) (hby : c.code = code) (hlk : meth.locks = false) (hml : c.maxLocals = 19) (hown0 : s.vm.findClass "com/example/valbonne/valbonne/codec/AttributeCodingsAddPinLaw" = some m.cls) (hZ0 : Z.Warmed39 s.vm) (hret : meth.sig.returnType = some .boolean) (i0 : Int32) (i1 : Int32) (i2 : Int32) (i3 : Int32) (i4 : Int32) (cz : Int32) (vb : Int32) (nn : Int32) (vk : Int32) (b5 : Addr) (b6 : Addr) (b8 : Addr) (b9 : Addr) (b11 : Addr) (b12 : Addr) (ru : Value) (rv : Value) (rx : Value) (b35 : Addr) (y1_36 : Addr) (ky1_36 : ClassId) (b37 : Addr) (b38 : Addr) (k38 : ClassId) (T39 : State) (hr_ru : ru.isRef = true) (hr_rv : rv.isRef = true) (hr_rx : rx.isRef = true) (g_b35 : n0 ≤ b35) (ne_b35_y1_36 : b35 ≠ y1_36) (ne_b35_b37 : b35 ≠ b37) (hZ39 : Z.Warmed39 (s.setVm T39.vm).vm) (hown39 : (s.setVm T39.vm).vm.findClass "com/example/valbonne/valbonne/codec/AttributeCodingsAddPinLaw" = some m.cls) (hS39 : s.Since T39.vm T39.heap.size) (hbeg : vb = (0 : Int32)) : ∀ (T229_40 : State) (hj229_40 : Heap) (Lj229_40 : List Loc) , (Stand p l e room_1 (s.setVm T39.vm) m #[(.int i0), (.int i1), (.int i2), (.int i3), (.int i4)] below meth c T229_40 Lj229_40 30 156) → (T229_40.heap = hj229_40) → (Fr n0 Lj229_40) → (n0 ≤ hj229_40.size) → (T39.heap.size ≤ hj229_40.size) → (Exa Z hj229_40 b5 own_NM) → (Exa Z hj229_40 b6 "java/lang/String") → (Exa Z hj229_40 b8 own_NM) → (Exa Z hj229_40 b9 "java/lang/String") → (Exa Z hj229_40 b11 own_NM) → (Exa Z hj229_40 b12 "java/lang/String") → (own_Opt Z hj229_40 ru "java/lang/String") → (own_Opt Z hj229_40 rv "java/lang/String") → (own_Opt Z hj229_40 rx "java/lang/String") → (Exa Z hj229_40 b35 own_AC) → (Fld Z hj229_40 b35 own_AC "kept" "[Lcom/example/valbonne/valbonne/codec/AttributeCodings$Coding;" (.ref y1_36)) → (Fld Z hj229_40 b35 own_AC "oldest" "I" (.int (0 : Int32))) → (Fld Z hj229_40 b35 own_AC "reading" "Lcom/example/valbonne/valbonne/codec/AttributeCodings$Coding;" .null) → (Fld Z hj229_40 b35 own_AC "readFrom" "J" (.long (0 : Int64))) → (Arv Z hj229_40 y1_36 ky1_36 (.object own_CO) (16 : Int32) [.null, .null, .null, .null, .null, .null, .null, .null, .null, .null, .null, .null, .null, .null, .null, .null] .null) → (Exa Z hj229_40 b37 own_SI) → (Arv Z hj229_40 b38 k38 .byte (0 : Int32) [] (.int (0 : Int32))) → (Fld Z hj229_40 b37 own_SI "bytes" "[B" (.ref b38)) → (Fld Z hj229_40 b37 own_SI "limit" "I" (.int (0 : Int32))) → (Fld Z hj229_40 b37 own_SI "pos" "I" (.int (0 : Int32))) → (Fld Z hj229_40 b37 own_SI "offset" "J" (.long (0 : Int64))) → (Fld Z hj229_40 b37 own_SI "attributePage" "I" (.int (0 : Int32))) → own_GoesW p e below s (Q0 Z i0 i1 i2 i3 i4 cz h0 n0) room_1.cells room_1.slots T229_40 (own_G m i0 i1 i2 i3 i4 vb nn vk b5 b8 b11 ru rv rx b35 b37 .unset .unset .unset 229 []) := by
  have hown := hown0
  have hZ := hZ0
  intro T229_40 hj229_40 Lj229_40  X229_40 e229_40 N229_40 Zj229_40 Ws229_40 Fj229_40_0 Fj229_40_1 Fj229_40_2 Fj229_40_3 Fj229_40_4 Fj229_40_5 Fj229_40_6 Fj229_40_7 Fj229_40_8 Fj229_40_9 Fj229_40_10 Fj229_40_11 Fj229_40_12 Fj229_40_13 Fj229_40_14 Fj229_40_16 Fj229_40_17 Fj229_40_18 Fj229_40_19 Fj229_40_20 Fj229_40_21 Fj229_40_22
  have hr_ru : ru.isRef = true := Fj229_40_6.isR
  have hr_rv : rv.isRef = true := Fj229_40_7.isR
  have hr_rx : rx.isRef = true := Fj229_40_8.isR
  refine own_stepW (f' := (own_G m i0 i1 i2 i3 i4 vb nn vk b5 b8 b11 ru rv rx b35 b37 .unset .unset .unset 231 [(.int vb)])) (fun _ k => XS.iload X229_40.here hx rfl (hb hby at_229) rfl k) ?_
  have hf231_41 : vb = (0 : Int32) := (by rw [hbeg] <;> decide)
  refine own_stepW (f' := (own_G m i0 i1 i2 i3 i4 vb nn vk b5 b8 b11 ru rv rx b35 b37 .unset .unset .unset 243 [])) (fun _ k => XS.ifYes X229_40.here hx rfl (pc0 := 231) (pc' := 243) rfl (hb hby at_231) rfl ((if0 _ _).trans (teq hf231_41).1) (by decide) (by decide) k) ?_
  refine own_stepW (f' := (own_G m i0 i1 i2 i3 i4 vb nn vk b5 b8 b11 ru rv rx b35 b37 .unset .unset .unset 245 [(.int nn)])) (fun _ k => XS.iload X229_40.here hx rfl (hb hby at_243) rfl k) ?_
  have J245_44 : ∀ (T245_44 : State) , Stand p l e room_1 (s.setVm T39.vm) m #[(.int i0), (.int i1), (.int i2), (.int i3), (.int i4)] below meth c T245_44 Lj229_40 30 156 → T245_44.heap = hj229_40 → own_GoesW p e below s (Q0 Z i0 i1 i2 i3 i4 cz h0 n0) room_1.cells room_1.slots T245_44 (own_G m i0 i1 i2 i3 i4 vb nn vk b5 b8 b11 ru rv rx b35 b37 .unset .unset .unset 257 []) := by
    intro T245_44  X245_44 e245_44 
    refine own_stepW (f' := (own_G m i0 i1 i2 i3 i4 vb nn vk b5 b8 b11 ru rv rx b35 b37 .unset .unset .unset 259 [(.int nn)])) (fun _ k => XS.iload X245_44.here hx rfl (hb hby at_257) rfl k) ?_
    refine own_stepW (f' := (own_G m i0 i1 i2 i3 i4 vb nn vk b5 b8 b11 ru rv rx b35 b37 .unset .unset .unset 260 [(.int (1 : Int32)), (.int nn)])) (fun _ k => XS.iconst X245_44.here hx rfl (hb hby at_259) k) ?_
    have J260_47 : ∀ (T260_47 : State) , Stand p l e room_1 (s.setVm T39.vm) m #[(.int i0), (.int i1), (.int i2), (.int i3), (.int i4)] below meth c T260_47 Lj229_40 30 156 → T260_47.heap = hj229_40 → own_GoesW p e below s (Q0 Z i0 i1 i2 i3 i4 cz h0 n0) room_1.cells room_1.slots T260_47 (own_G m i0 i1 i2 i3 i4 vb nn vk b5 b8 b11 ru rv rx b35 b37 .unset .unset .unset 272 []) := by
      intro T260_47  X260_47 e260_47 
      refine own_stepW (f' := (own_G m i0 i1 i2 i3 i4 vb nn vk b5 b8 b11 ru rv rx b35 b37 .unset .unset .unset 274 [(.int nn)])) (fun _ k => XS.iload X260_47.here hx rfl (hb hby at_272) rfl k) ?_
      refine own_stepW (f' := (own_G m i0 i1 i2 i3 i4 vb nn vk b5 b8 b11 ru rv rx b35 b37 .unset .unset .unset 275 [(.int (2 : Int32)), (.int nn)])) (fun _ k => XS.iconst X260_47.here hx rfl (hb hby at_274) k) ?_
      have J275_50 : ∀ (T275_50 : State) , Stand p l e room_1 (s.setVm T39.vm) m #[(.int i0), (.int i1), (.int i2), (.int i3), (.int i4)] below meth c T275_50 Lj229_40 30 156 → T275_50.heap = hj229_40 → own_GoesW p e below s (Q0 Z i0 i1 i2 i3 i4 cz h0 n0) room_1.cells room_1.slots T275_50 (own_G m i0 i1 i2 i3 i4 vb nn vk b5 b8 b11 ru rv rx b35 b37 .unset .unset .unset 287 []) := by
        intro T275_50  X275_50 e275_50 
        refine own_stepW (f' := (own_G m i0 i1 i2 i3 i4 vb nn vk b5 b8 b11 ru rv rx b35 b37 .unset .unset .unset 289 [(.int vk)])) (fun _ k => XS.iload X275_50.here hx rfl (hb hby at_287) rfl k) ?_
        have J289_56 : ∀ (T289_56 : State) , Stand p l e room_1 (s.setVm T39.vm) m #[(.int i0), (.int i1), (.int i2), (.int i3), (.int i4)] below meth c T289_56 Lj229_40 30 156 → T289_56.heap = hj229_40 → own_GoesW p e below s (Q0 Z i0 i1 i2 i3 i4 cz h0 n0) room_1.cells room_1.slots T289_56 (own_G m i0 i1 i2 i3 i4 vb nn vk b5 b8 b11 ru rv rx b35 b37 .unset .unset .unset 328 []) := by
          intro T289_56  X289_56 e289_56 
          refine own_stepW (f' := (own_G m i0 i1 i2 i3 i4 vb nn vk b5 b8 b11 ru rv rx b35 b37 .unset .unset .unset 330 [(.ref b35)])) (fun _ k => XS.aload X289_56.here hx rfl (hb hby at_328) rfl rfl k) ?_
          refine own_stepW (f' := (own_G m i0 i1 i2 i3 i4 vb nn vk b5 b8 b11 ru rv rx b35 b37 .unset .unset .unset 332 [(.ref b37), (.ref b35)])) (fun _ k => XS.aload X289_56.here hx rfl (hb hby at_330) rfl rfl k) ?_
          have Zq57 : n0 ≤ hj229_40.size := Zj229_40
          obtain ⟨cq57, kq57, q57a, q57b, q57c⟩ := isOf hZ39 e289_56 Fj229_40_9
          obtain ⟨_, _, ⟨T57, L57, k57, n57⟩, -, X57, ⟨Lc57, hQ57, l57, y57, z57⟩, st57⟩ := X289_56.virtualBack hx (y := (⟨own_AC, "end", "(Lcom/example/valbonne/valbonne/codec/StreamInput;)V"⟩ : MethodName)) (z := (⟨own_AC, "end", "(Lcom/example/valbonne/valbonne/codec/StreamInput;)V"⟩ : MethodName)) hown39 (mvT hZ39 (own_w110 hw)) (mvT hZ39 (own_w111 hw)) (notFace_of_selects (args := #[]) (mvT hZ39 (own_w113 hw))) (mvT hZ39 (own_w113 hw)) (mvT hZ39 (own_w112 hw)) (by decide) (backOf (W := 0) (rm15n l Z a0 hw [] b35 b37 y1_36 hj229_40 n0 Zq57 Fj229_40_9 g_b35 Fj229_40_16 Fj229_40_20 Fj229_40_21 Fj229_40_10 Fj229_40_11 Fj229_40_12 Fj229_40_13) hZ39 (own_w114 hw) (own_w60 hw) (by decide) (by decide)) q57a q57c (g := (own_G m i0 i1 i2 i3 i4 vb nn vk b5 b8 b11 ru rv rx b35 b37 .unset .unset .unset 332 [(.ref b37), (.ref b35)])) rfl (by rw [hml]; rfl) (Steps.refl _) (argsL := [(.ref b37)]) (rest := []) (lenOf pd_23 rfl) rfl (by show 2 * 0 + _ ≤ _; exact Nat.le_of_eq rfl) (hb hby at_332) (fun _ _ => ⟨rfl, e289_56, (by decide : 30 + 0 ≤ _), (by decide : 156 + 0 ≤ _)⟩)
          dsimp only [Pt.U, Pt.locs, Pt.cells, Pt.slots] at X57 l57 y57 z57 st57 hQ57
          subst l57 y57 z57
          obtain ⟨rfl, Nq57, K57, P57_0, P57_1, P57_2, P57_3⟩ := hQ57
          obtain ⟨Lo57, X57, N57⟩ : ∃ K, Stand p l e room_1 (s.setVm T39.vm) m #[(.int i0), (.int i1), (.int i2), (.int i3), (.int i4)] below meth c T57 K 30 156 ∧ Fr n0 K := ⟨_, X57, (Fr.app N229_40 Nq57)⟩
          refine own_jumpW (f' := (own_G m i0 i1 i2 i3 i4 vb nn vk b5 b8 b11 ru rv rx b35 b37 .unset .unset .unset 335 [])) st57 ?_
          refine own_stepW (f' := (own_G m i0 i1 i2 i3 i4 vb nn vk b5 b8 b11 ru rv rx b35 b37 .unset .unset .unset 337 [(.ref b35)])) (fun _ k => XS.aload X57.here hx rfl (hb hby at_335) rfl rfl k) ?_
          refine own_stepW (f' := (own_G m i0 i1 i2 i3 i4 vb nn vk b5 b8 b11 ru rv rx b35 b37 .unset .unset .unset 339 [(.ref b37), (.ref b35)])) (fun _ k => XS.aload X57.here hx rfl (hb hby at_337) rfl rfl k) ?_
          refine own_stepW (f' := (own_G m i0 i1 i2 i3 i4 vb nn vk b5 b8 b11 ru rv rx b35 b37 .unset .unset .unset 340 [.null, (.ref b37), (.ref b35)])) (fun _ k => XS.aconstNull X57.here hx rfl (hb hby at_339) k) ?_
          refine own_stepW (f' := (own_G m i0 i1 i2 i3 i4 vb nn vk b5 b8 b11 ru rv rx b35 b37 .unset .unset .unset 341 [(.int (1 : Int32)), .null, (.ref b37), (.ref b35)])) (fun _ k => XS.iconst X57.here hx rfl (hb hby at_340) k) ?_
          have Zq58 : n0 ≤ T57.heap.size := (Nat.le_trans Zj229_40 K57.1)
          obtain ⟨cq58, kq58, q58a, q58b, q58c⟩ := isOf hZ39 rfl (Fj229_40_9.keep K57)
          obtain ⟨_, _, ⟨T58, L58, k58, n58⟩, -, X58, ⟨Lc58, hQ58, l58, y58, z58⟩, st58⟩ := X57.virtualBack hx (y := (⟨own_AC, "readKnown", "(Lcom/example/valbonne/valbonne/codec/StreamInput;Lcom/example/valbonne/valbonne/codec/DeclaredAttributes;Z)Lcom/example/valbonne/valbonne/codec/AttributeCodings$Coding;"⟩ : MethodName)) (z := (⟨own_AC, "readKnown", "(Lcom/example/valbonne/valbonne/codec/StreamInput;Lcom/example/valbonne/valbonne/codec/DeclaredAttributes;Z)Lcom/example/valbonne/valbonne/codec/AttributeCodings$Coding;"⟩ : MethodName)) hown39 (mvT hZ39 (own_w128 hw)) (mvT hZ39 (own_w129 hw)) (notFace_of_selects (args := #[]) (mvT hZ39 (own_w131 hw))) (mvT hZ39 (own_w131 hw)) (mvT hZ39 (own_w130 hw)) (by decide) (backOf (W := 0) (rm17n l Z a0 hw [] b35 b37 y1_36 ky1_36 T57.heap n0 Zq58 P57_0 (Fj229_40_16.keep K57) (Fj229_40_22.keep K57 (ninS (Ne.symm ne_b35_b37) nin0)) (Fj229_40_14.keep K57 (ninS (Ne.symm ne_b35_y1_36) nin0))) hZ39 (own_w132 hw) (own_w60 hw) (by decide) (by decide)) q58a q58c (g := (own_G m i0 i1 i2 i3 i4 vb nn vk b5 b8 b11 ru rv rx b35 b37 .unset .unset .unset 341 [(.int (1 : Int32)), .null, (.ref b37), (.ref b35)])) rfl (by rw [hml]; rfl) (Steps.refl _) (argsL := [(.ref b37), .null, (.int (1 : Int32))]) (rest := []) (lenOf pd_24 rfl) rfl (by show 2 * 0 + _ ≤ _; exact Nat.le_of_eq rfl) (hb hby at_341) (fun _ _ => ⟨rfl, rfl, (by decide : 30 + 0 ≤ _), (by decide : 156 + 0 ≤ _)⟩)
          dsimp only [Pt.U, Pt.locs, Pt.cells, Pt.slots] at X58 l58 y58 z58 st58 hQ58
          subst l58 y58 z58
          obtain ⟨rfl, rfl, e58⟩ := hQ58
          try rw [List.append_nil] at X58
          refine own_jumpW (f' := (own_G m i0 i1 i2 i3 i4 vb nn vk b5 b8 b11 ru rv rx b35 b37 .unset .unset .unset 344 [.null])) st58 ?_
          refine own_stepW (f' := (own_G m i0 i1 i2 i3 i4 vb nn vk b5 b8 b11 ru rv rx b35 b37 (.val .null) .unset .unset 346 [])) (fun _ k => XS.astore X58.here hx rfl (hb hby at_344) rfl rfl (l' := #[.val (.int i0), .val (.int i1), .val (.int i2), .val (.int i3), .val (.int i4), .val (.int vb), .val (.int nn), .val (.int vk), .val (.ref b5), .val (.ref b8), .val (.ref b11), .val ru, .val rv, .val rx, .val (.ref b35), .val (.ref b37), .val .null, .unset, .unset]) rfl k) ?_
          refine own_stepW (f' := (own_G m i0 i1 i2 i3 i4 vb nn vk b5 b8 b11 ru rv rx b35 b37 (.val .null) .unset .unset 348 [(.int nn)])) (fun _ k => XS.iload X58.here hx rfl (hb hby at_346) rfl k) ?_
          refine own_stepW (f' := (own_G m i0 i1 i2 i3 i4 vb nn vk b5 b8 b11 ru rv rx b35 b37 (.val .null) .unset .unset 350 [(.int vk), (.int nn)])) (fun _ k => XS.iload X58.here hx rfl (hb hby at_348) rfl k) ?_
          have J350_60 : ∀ (T350_60 : State) (v350_60_s0 : Int32), Stand p l e room_1 (s.setVm T39.vm) m #[(.int i0), (.int i1), (.int i2), (.int i3), (.int i4)] below meth c T350_60 Lo57 30 156 → T350_60.heap = T57.heap → v350_60_s0 = (if vk = (0 : Int32) then (0 : Int32) else (16 : Int32)) → own_GoesW p e below s (Q0 Z i0 i1 i2 i3 i4 cz h0 n0) room_1.cells room_1.slots T350_60 (own_G m i0 i1 i2 i3 i4 vb nn vk b5 b8 b11 ru rv rx b35 b37 (.val .null) .unset .unset 359 [(.int v350_60_s0), (.int nn)]) := by
            intro T350_60 v350_60_s0 X350_60 e350_60 hv350_60_0
            refine own_stepW (f' := (own_G m i0 i1 i2 i3 i4 vb nn vk b5 b8 b11 ru rv rx b35 b37 (.val .null) .unset .unset 360 [(.int (nn + v350_60_s0))])) (fun _ k => XS.iadd X350_60.here hx rfl (hb hby at_359) rfl k) ?_
            refine own_stepW (f' := (own_G m i0 i1 i2 i3 i4 vb nn vk b5 b8 b11 ru rv rx b35 b37 (.val .null) (.val (.int (nn + v350_60_s0))) .unset 362 [])) (fun _ k => XS.istore X350_60.here hx rfl (hb hby at_360) rfl (l' := #[.val (.int i0), .val (.int i1), .val (.int i2), .val (.int i3), .val (.int i4), .val (.int vb), .val (.int nn), .val (.int vk), .val (.ref b5), .val (.ref b8), .val (.ref b11), .val ru, .val rv, .val rx, .val (.ref b35), .val (.ref b37), .val .null, .val (.int (nn + v350_60_s0)), .unset]) rfl k) ?_
            refine own_stepW (f' := (own_G m i0 i1 i2 i3 i4 vb nn vk b5 b8 b11 ru rv rx b35 b37 (.val .null) (.val (.int (nn + v350_60_s0))) .unset 364 [(.int vb)])) (fun _ k => XS.iload X350_60.here hx rfl (hb hby at_362) rfl k) ?_
            have hf364_61 : vb = (0 : Int32) := (by rw [hbeg] <;> decide)
            refine own_stepW (f' := (own_G m i0 i1 i2 i3 i4 vb nn vk b5 b8 b11 ru rv rx b35 b37 (.val .null) (.val (.int (nn + v350_60_s0))) .unset 374 [])) (fun _ k => XS.ifYes X350_60.here hx rfl (pc0 := 364) (pc' := 374) rfl (hb hby at_364) rfl ((if0 _ _).trans (teq hf364_61).1) (by decide) (by decide) k) ?_
            refine own_stepW (f' := (own_G m i0 i1 i2 i3 i4 vb nn vk b5 b8 b11 ru rv rx b35 b37 (.val .null) (.val (.int (nn + v350_60_s0))) .unset 376 [.null])) (fun _ k => XS.aload X350_60.here hx rfl (hb hby at_374) rfl rfl k) ?_
            refine own_stepW (f' := (own_G m i0 i1 i2 i3 i4 vb nn vk b5 b8 b11 ru rv rx b35 b37 (.val .null) (.val (.int (nn + v350_60_s0))) .unset 379 [])) (fun _ k => XS.ifnonnullNo X350_60.here hx rfl (hb hby at_376) rfl k) ?_
            refine own_stepW (f' := (own_G m i0 i1 i2 i3 i4 vb nn vk b5 b8 b11 ru rv rx b35 b37 (.val .null) (.val (.int (nn + v350_60_s0))) .unset 380 [(.int (1 : Int32))])) (fun _ k => XS.iconst X350_60.here hx rfl (hb hby at_379) k) ?_
            refine own_stepW (f' := (own_G m i0 i1 i2 i3 i4 vb nn vk b5 b8 b11 ru rv rx b35 b37 (.val .null) (.val (.int (nn + v350_60_s0))) .unset 384 [(.int (1 : Int32))])) (fun _ k => XS.goto X350_60.here hx rfl (pc0 := 380) (pc' := 384) rfl (hb hby at_380) (by decide) (by decide) k) ?_
            refine own_stepW (f' := (own_G m i0 i1 i2 i3 i4 vb nn vk b5 b8 b11 ru rv rx b35 b37 (.val .null) (.val (.int (nn + v350_60_s0))) (.val (.int (1 : Int32))) 386 [])) (fun _ k => XS.istore X350_60.here hx rfl (hb hby at_384) rfl (l' := #[.val (.int i0), .val (.int i1), .val (.int i2), .val (.int i3), .val (.int i4), .val (.int vb), .val (.int nn), .val (.int vk), .val (.ref b5), .val (.ref b8), .val (.ref b11), .val ru, .val rv, .val rx, .val (.ref b35), .val (.ref b37), .val .null, .val (.int (nn + v350_60_s0)), .val (.int (1 : Int32))]) rfl k) ?_
            refine own_stepW (f' := (own_G m i0 i1 i2 i3 i4 vb nn vk b5 b8 b11 ru rv rx b35 b37 (.val .null) (.val (.int (nn + v350_60_s0))) (.val (.int (1 : Int32))) 514 [])) (fun _ k => XS.goto X350_60.here hx rfl (pc0 := 386) (pc' := 514) rfl (hb hby at_386) (by decide) (by decide) k) ?_
            refine own_stepW (f' := (own_G m i0 i1 i2 i3 i4 vb nn vk b5 b8 b11 ru rv rx b35 b37 (.val .null) (.val (.int (nn + v350_60_s0))) (.val (.int (1 : Int32))) 516 [(.int (1 : Int32))])) (fun _ k => XS.iload X350_60.here hx rfl (hb hby at_514) rfl k) ?_
            refine own_outW (v := some (.int (1 : Int32))) X350_60 hS39 (by rw [e350_60]; exact (Nat.le_trans Ws229_40 K57.1)) hlk (fun h => by rw [hret] at h; cases h) (fun fs hr => retN X350_60 hx (t := .boolean) hret (by simp) (hb hby at_516) hr) (by decide) (by decide) ?_
            exact ⟨rfl, N57⟩
          by_cases hc350_59 : vk = (0 : Int32)
          · refine own_stepW (f' := (own_G m i0 i1 i2 i3 i4 vb nn vk b5 b8 b11 ru rv rx b35 b37 (.val .null) .unset .unset 358 [(.int nn)])) (fun _ k => XS.ifYes X58.here hx rfl (pc0 := 350) (pc' := 358) rfl (hb hby at_350) rfl ((if0 _ _).trans (teq hc350_59).1) (by decide) (by decide) k) ?_
            refine own_stepW (f' := (own_G m i0 i1 i2 i3 i4 vb nn vk b5 b8 b11 ru rv rx b35 b37 (.val .null) .unset .unset 359 [(.int (0 : Int32)), (.int nn)])) (fun _ k => XS.iconst X58.here hx rfl (hb hby at_358) k) ?_
            exact J350_60 _ (0 : Int32) X58 e58 (by rw [if_pos hc350_59])
          · refine own_stepW (f' := (own_G m i0 i1 i2 i3 i4 vb nn vk b5 b8 b11 ru rv rx b35 b37 (.val .null) .unset .unset 353 [(.int nn)])) (fun _ k => XS.ifNo X58.here hx rfl (hb hby at_350) rfl ((if0 _ _).trans (feq hc350_59).1) k) ?_
            refine own_stepW (f' := (own_G m i0 i1 i2 i3 i4 vb nn vk b5 b8 b11 ru rv rx b35 b37 (.val .null) .unset .unset 355 [(.int (16 : Int32)), (.int nn)])) (fun _ k => XS.bipush X58.here hx rfl (hb hby at_353) k) ?_
            refine own_stepW (f' := (own_G m i0 i1 i2 i3 i4 vb nn vk b5 b8 b11 ru rv rx b35 b37 (.val .null) .unset .unset 359 [(.int (16 : Int32)), (.int nn)])) (fun _ k => XS.goto X58.here hx rfl (pc0 := 355) (pc' := 359) rfl (hb hby at_355) (by decide) (by decide) k) ?_
            exact J350_60 _ (16 : Int32) X58 e58 (by rw [if_neg hc350_59])
        by_cases hc289_51 : vk = (0 : Int32)
        · refine own_stepW (f' := (own_G m i0 i1 i2 i3 i4 vb nn vk b5 b8 b11 ru rv rx b35 b37 .unset .unset .unset 328 [])) (fun _ k => XS.ifYes X275_50.here hx rfl (pc0 := 289) (pc' := 328) rfl (hb hby at_289) rfl ((if0 _ _).trans (teq hc289_51).1) (by decide) (by decide) k) ?_
          exact J289_56 _  X275_50 e275_50 
        · refine own_stepW (f' := (own_G m i0 i1 i2 i3 i4 vb nn vk b5 b8 b11 ru rv rx b35 b37 .unset .unset .unset 292 [])) (fun _ k => XS.ifNo X275_50.here hx rfl (hb hby at_289) rfl ((if0 _ _).trans (feq hc289_51).1) k) ?_
          refine own_stepW (f' := (own_G m i0 i1 i2 i3 i4 vb nn vk b5 b8 b11 ru rv rx b35 b37 .unset .unset .unset 294 [(.ref b35)])) (fun _ k => XS.aload X275_50.here hx rfl (hb hby at_292) rfl rfl k) ?_
          refine own_stepW (f' := (own_G m i0 i1 i2 i3 i4 vb nn vk b5 b8 b11 ru rv rx b35 b37 .unset .unset .unset 296 [(.ref b5), (.ref b35)])) (fun _ k => XS.aload X275_50.here hx rfl (hb hby at_294) rfl rfl k) ?_
          refine own_stepW (f' := (own_G m i0 i1 i2 i3 i4 vb nn vk b5 b8 b11 ru rv rx b35 b37 .unset .unset .unset 298 [ru, (.ref b5), (.ref b35)])) (fun _ k => XS.aload X275_50.here hx rfl (hb hby at_296) rfl hr_ru k) ?_
          have Zq1052 : n0 ≤ hj229_40.size := Zj229_40
          obtain ⟨_, _, ⟨T1052, L1052, k1052, n1052⟩, -, X1052, ⟨Lc1052, hQ1052, l1052, y1052, z1052⟩, st1052⟩ := Jvm.LawKit.callS X275_50 hx (y := (⟨"com/example/valbonne/valbonne/codec/AttributeCodingsAddPinLaw", "addFour", "(Lcom/example/valbonne/valbonne/codec/AttributeCodings;Lcom/example/valbonne/valbonne/codec/Name;Ljava/lang/String;)V"⟩ : MethodName)) hown39 (mvT hZ39 (own_w241 hw)) (mvT hZ39 (own_w242 hw)) (mvT hZ39 (own_w229 hw)) (mvT hZ39 (own_w243 hw)) (by decide) (backOf (W := 0) (rm32n l Z a0 hw [] b35 b5 ru hj229_40 n0 Zq1052 Fj229_40_6 Fj229_40_9 Fj229_40_12) hZ39 (own_w243 hw) (own_w229 hw) (by decide) (by decide)) (g := (own_G m i0 i1 i2 i3 i4 vb nn vk b5 b8 b11 ru rv rx b35 b37 .unset .unset .unset 298 [ru, (.ref b5), (.ref b35)])) rfl (by rw [hml]; rfl) (argsL := [(.ref b35), (.ref b5), ru]) (rest := []) (lenOf pd_22 rfl) rfl (by show 2 * 0 + _ ≤ _; exact Nat.le_of_eq rfl) (hb hby at_298) (fun _ _ => ⟨rfl, e275_50, (by decide : 30 + 0 ≤ _), (by decide : 156 + 0 ≤ _)⟩)
          dsimp only [Pt.U, Pt.locs, Pt.cells, Pt.slots] at X1052 l1052 y1052 z1052 st1052 hQ1052
          subst l1052 y1052 z1052
          obtain ⟨rfl, rfl, e1052⟩ := hQ1052
          try rw [List.append_nil] at X1052
          refine own_stepW (f' := (own_G m i0 i1 i2 i3 i4 vb nn vk b5 b8 b11 ru rv rx b35 b37 .unset .unset .unset 301 [])) st1052 ?_
          refine own_stepW (f' := (own_G m i0 i1 i2 i3 i4 vb nn vk b5 b8 b11 ru rv rx b35 b37 .unset .unset .unset 303 [(.ref b35)])) (fun _ k => XS.aload X1052.here hx rfl (hb hby at_301) rfl rfl k) ?_
          refine own_stepW (f' := (own_G m i0 i1 i2 i3 i4 vb nn vk b5 b8 b11 ru rv rx b35 b37 .unset .unset .unset 305 [(.ref b5), (.ref b35)])) (fun _ k => XS.aload X1052.here hx rfl (hb hby at_303) rfl rfl k) ?_
          refine own_stepW (f' := (own_G m i0 i1 i2 i3 i4 vb nn vk b5 b8 b11 ru rv rx b35 b37 .unset .unset .unset 307 [ru, (.ref b5), (.ref b35)])) (fun _ k => XS.aload X1052.here hx rfl (hb hby at_305) rfl hr_ru k) ?_
          have Zq1053 : n0 ≤ hj229_40.size := Zj229_40
          obtain ⟨_, _, ⟨T1053, L1053, k1053, n1053⟩, -, X1053, ⟨Lc1053, hQ1053, l1053, y1053, z1053⟩, st1053⟩ := Jvm.LawKit.callS X1052 hx (y := (⟨"com/example/valbonne/valbonne/codec/AttributeCodingsAddPinLaw", "addFour", "(Lcom/example/valbonne/valbonne/codec/AttributeCodings;Lcom/example/valbonne/valbonne/codec/Name;Ljava/lang/String;)V"⟩ : MethodName)) hown39 (mvT hZ39 (own_w241 hw)) (mvT hZ39 (own_w242 hw)) (mvT hZ39 (own_w229 hw)) (mvT hZ39 (own_w243 hw)) (by decide) (backOf (W := 0) (rm32n l Z a0 hw [] b35 b5 ru hj229_40 n0 Zq1053 Fj229_40_6 Fj229_40_9 Fj229_40_12) hZ39 (own_w243 hw) (own_w229 hw) (by decide) (by decide)) (g := (own_G m i0 i1 i2 i3 i4 vb nn vk b5 b8 b11 ru rv rx b35 b37 .unset .unset .unset 307 [ru, (.ref b5), (.ref b35)])) rfl (by rw [hml]; rfl) (argsL := [(.ref b35), (.ref b5), ru]) (rest := []) (lenOf pd_22 rfl) rfl (by show 2 * 0 + _ ≤ _; exact Nat.le_of_eq rfl) (hb hby at_307) (fun _ _ => ⟨rfl, e1052, (by decide : 30 + 0 ≤ _), (by decide : 156 + 0 ≤ _)⟩)
          dsimp only [Pt.U, Pt.locs, Pt.cells, Pt.slots] at X1053 l1053 y1053 z1053 st1053 hQ1053
          subst l1053 y1053 z1053
          obtain ⟨rfl, rfl, e1053⟩ := hQ1053
          try rw [List.append_nil] at X1053
          refine own_stepW (f' := (own_G m i0 i1 i2 i3 i4 vb nn vk b5 b8 b11 ru rv rx b35 b37 .unset .unset .unset 310 [])) st1053 ?_
          refine own_stepW (f' := (own_G m i0 i1 i2 i3 i4 vb nn vk b5 b8 b11 ru rv rx b35 b37 .unset .unset .unset 312 [(.ref b35)])) (fun _ k => XS.aload X1053.here hx rfl (hb hby at_310) rfl rfl k) ?_
          refine own_stepW (f' := (own_G m i0 i1 i2 i3 i4 vb nn vk b5 b8 b11 ru rv rx b35 b37 .unset .unset .unset 314 [(.ref b5), (.ref b35)])) (fun _ k => XS.aload X1053.here hx rfl (hb hby at_312) rfl rfl k) ?_
          refine own_stepW (f' := (own_G m i0 i1 i2 i3 i4 vb nn vk b5 b8 b11 ru rv rx b35 b37 .unset .unset .unset 316 [ru, (.ref b5), (.ref b35)])) (fun _ k => XS.aload X1053.here hx rfl (hb hby at_314) rfl hr_ru k) ?_
          have Zq1054 : n0 ≤ hj229_40.size := Zj229_40
          obtain ⟨_, _, ⟨T1054, L1054, k1054, n1054⟩, -, X1054, ⟨Lc1054, hQ1054, l1054, y1054, z1054⟩, st1054⟩ := Jvm.LawKit.callS X1053 hx (y := (⟨"com/example/valbonne/valbonne/codec/AttributeCodingsAddPinLaw", "addFour", "(Lcom/example/valbonne/valbonne/codec/AttributeCodings;Lcom/example/valbonne/valbonne/codec/Name;Ljava/lang/String;)V"⟩ : MethodName)) hown39 (mvT hZ39 (own_w241 hw)) (mvT hZ39 (own_w242 hw)) (mvT hZ39 (own_w229 hw)) (mvT hZ39 (own_w243 hw)) (by decide) (backOf (W := 0) (rm32n l Z a0 hw [] b35 b5 ru hj229_40 n0 Zq1054 Fj229_40_6 Fj229_40_9 Fj229_40_12) hZ39 (own_w243 hw) (own_w229 hw) (by decide) (by decide)) (g := (own_G m i0 i1 i2 i3 i4 vb nn vk b5 b8 b11 ru rv rx b35 b37 .unset .unset .unset 316 [ru, (.ref b5), (.ref b35)])) rfl (by rw [hml]; rfl) (argsL := [(.ref b35), (.ref b5), ru]) (rest := []) (lenOf pd_22 rfl) rfl (by show 2 * 0 + _ ≤ _; exact Nat.le_of_eq rfl) (hb hby at_316) (fun _ _ => ⟨rfl, e1053, (by decide : 30 + 0 ≤ _), (by decide : 156 + 0 ≤ _)⟩)
          dsimp only [Pt.U, Pt.locs, Pt.cells, Pt.slots] at X1054 l1054 y1054 z1054 st1054 hQ1054
          subst l1054 y1054 z1054
          obtain ⟨rfl, rfl, e1054⟩ := hQ1054
          try rw [List.append_nil] at X1054
          refine own_stepW (f' := (own_G m i0 i1 i2 i3 i4 vb nn vk b5 b8 b11 ru rv rx b35 b37 .unset .unset .unset 319 [])) st1054 ?_
          refine own_stepW (f' := (own_G m i0 i1 i2 i3 i4 vb nn vk b5 b8 b11 ru rv rx b35 b37 .unset .unset .unset 321 [(.ref b35)])) (fun _ k => XS.aload X1054.here hx rfl (hb hby at_319) rfl rfl k) ?_
          refine own_stepW (f' := (own_G m i0 i1 i2 i3 i4 vb nn vk b5 b8 b11 ru rv rx b35 b37 .unset .unset .unset 323 [(.ref b5), (.ref b35)])) (fun _ k => XS.aload X1054.here hx rfl (hb hby at_321) rfl rfl k) ?_
          refine own_stepW (f' := (own_G m i0 i1 i2 i3 i4 vb nn vk b5 b8 b11 ru rv rx b35 b37 .unset .unset .unset 325 [ru, (.ref b5), (.ref b35)])) (fun _ k => XS.aload X1054.here hx rfl (hb hby at_323) rfl hr_ru k) ?_
          have Zq1055 : n0 ≤ hj229_40.size := Zj229_40
          obtain ⟨_, _, ⟨T1055, L1055, k1055, n1055⟩, -, X1055, ⟨Lc1055, hQ1055, l1055, y1055, z1055⟩, st1055⟩ := Jvm.LawKit.callS X1054 hx (y := (⟨"com/example/valbonne/valbonne/codec/AttributeCodingsAddPinLaw", "addFour", "(Lcom/example/valbonne/valbonne/codec/AttributeCodings;Lcom/example/valbonne/valbonne/codec/Name;Ljava/lang/String;)V"⟩ : MethodName)) hown39 (mvT hZ39 (own_w241 hw)) (mvT hZ39 (own_w242 hw)) (mvT hZ39 (own_w229 hw)) (mvT hZ39 (own_w243 hw)) (by decide) (backOf (W := 0) (rm32n l Z a0 hw [] b35 b5 ru hj229_40 n0 Zq1055 Fj229_40_6 Fj229_40_9 Fj229_40_12) hZ39 (own_w243 hw) (own_w229 hw) (by decide) (by decide)) (g := (own_G m i0 i1 i2 i3 i4 vb nn vk b5 b8 b11 ru rv rx b35 b37 .unset .unset .unset 325 [ru, (.ref b5), (.ref b35)])) rfl (by rw [hml]; rfl) (argsL := [(.ref b35), (.ref b5), ru]) (rest := []) (lenOf pd_22 rfl) rfl (by show 2 * 0 + _ ≤ _; exact Nat.le_of_eq rfl) (hb hby at_325) (fun _ _ => ⟨rfl, e1054, (by decide : 30 + 0 ≤ _), (by decide : 156 + 0 ≤ _)⟩)
          dsimp only [Pt.U, Pt.locs, Pt.cells, Pt.slots] at X1055 l1055 y1055 z1055 st1055 hQ1055
          subst l1055 y1055 z1055
          obtain ⟨rfl, rfl, e1055⟩ := hQ1055
          try rw [List.append_nil] at X1055
          refine own_stepW (f' := (own_G m i0 i1 i2 i3 i4 vb nn vk b5 b8 b11 ru rv rx b35 b37 .unset .unset .unset 328 [])) st1055 ?_
          exact J289_56 _  X1055 e1055 
      by_cases hc275_48 : (2 : Int32) < nn
      · refine own_stepW (f' := (own_G m i0 i1 i2 i3 i4 vb nn vk b5 b8 b11 ru rv rx b35 b37 .unset .unset .unset 278 [])) (fun _ k => XS.icmpNo X260_47.here hx rfl (hb hby at_275) rfl (tlt hc275_48).2.2.2 k) ?_
        refine own_stepW (f' := (own_G m i0 i1 i2 i3 i4 vb nn vk b5 b8 b11 ru rv rx b35 b37 .unset .unset .unset 280 [(.ref b35)])) (fun _ k => XS.aload X260_47.here hx rfl (hb hby at_278) rfl rfl k) ?_
        refine own_stepW (f' := (own_G m i0 i1 i2 i3 i4 vb nn vk b5 b8 b11 ru rv rx b35 b37 .unset .unset .unset 282 [(.ref b11), (.ref b35)])) (fun _ k => XS.aload X260_47.here hx rfl (hb hby at_280) rfl rfl k) ?_
        refine own_stepW (f' := (own_G m i0 i1 i2 i3 i4 vb nn vk b5 b8 b11 ru rv rx b35 b37 .unset .unset .unset 284 [rx, (.ref b11), (.ref b35)])) (fun _ k => XS.aload X260_47.here hx rfl (hb hby at_282) rfl hr_rx k) ?_
        have Zq1049 : n0 ≤ hj229_40.size := Zj229_40
        obtain ⟨cq1049, kq1049, q1049a, q1049b, q1049c⟩ := isOf hZ39 e260_47 Fj229_40_9
        obtain ⟨_, _, ⟨T1049, L1049, k1049, n1049⟩, -, X1049, ⟨Lc1049, hQ1049, l1049, y1049, z1049⟩, st1049⟩ := X260_47.virtualBack hx (y := (⟨own_AC, "add", "(Lcom/example/valbonne/valbonne/codec/Name;Ljava/lang/String;)V"⟩ : MethodName)) (z := (⟨own_AC, "add", "(Lcom/example/valbonne/valbonne/codec/Name;Ljava/lang/String;)V"⟩ : MethodName)) hown39 (mvT hZ39 (own_w177 hw)) (mvT hZ39 (own_w178 hw)) (notFace_of_selects (args := #[]) (mvT hZ39 (own_w180 hw))) (mvT hZ39 (own_w180 hw)) (mvT hZ39 (own_w179 hw)) (by decide) (backOf (W := 0) (rm22n l Z a0 hw [] b35 b11 rx hj229_40 n0 Zq1049 Fj229_40_8 Fj229_40_12) hZ39 (own_w181 hw) (own_w60 hw) (by decide) (by decide)) q1049a q1049c (g := (own_G m i0 i1 i2 i3 i4 vb nn vk b5 b8 b11 ru rv rx b35 b37 .unset .unset .unset 284 [rx, (.ref b11), (.ref b35)])) rfl (by rw [hml]; rfl) (Steps.refl _) (argsL := [(.ref b11), rx]) (rest := []) (lenOf pd_11 rfl) rfl (by show 2 * 0 + _ ≤ _; exact Nat.le_of_eq rfl) (hb hby at_284) (fun _ _ => ⟨rfl, e260_47, (by decide : 30 + 0 ≤ _), (by decide : 156 + 0 ≤ _)⟩)
        dsimp only [Pt.U, Pt.locs, Pt.cells, Pt.slots] at X1049 l1049 y1049 z1049 st1049 hQ1049
        subst l1049 y1049 z1049
        obtain ⟨rfl, rfl, e1049⟩ := hQ1049
        try rw [List.append_nil] at X1049
        refine own_jumpW (f' := (own_G m i0 i1 i2 i3 i4 vb nn vk b5 b8 b11 ru rv rx b35 b37 .unset .unset .unset 287 [])) st1049 ?_
        exact J275_50 _  X1049 e1049 
      · refine own_stepW (f' := (own_G m i0 i1 i2 i3 i4 vb nn vk b5 b8 b11 ru rv rx b35 b37 .unset .unset .unset 287 [])) (fun _ k => XS.icmpYes X260_47.here hx rfl (pc0 := 275) (pc' := 287) rfl (hb hby at_275) rfl (flt hc275_48).2.2.2 (by decide) (by decide) k) ?_
        exact J275_50 _  X260_47 e260_47 
    by_cases hc260_45 : (1 : Int32) < nn
    · refine own_stepW (f' := (own_G m i0 i1 i2 i3 i4 vb nn vk b5 b8 b11 ru rv rx b35 b37 .unset .unset .unset 263 [])) (fun _ k => XS.icmpNo X245_44.here hx rfl (hb hby at_260) rfl (tlt hc260_45).2.2.2 k) ?_
      refine own_stepW (f' := (own_G m i0 i1 i2 i3 i4 vb nn vk b5 b8 b11 ru rv rx b35 b37 .unset .unset .unset 265 [(.ref b35)])) (fun _ k => XS.aload X245_44.here hx rfl (hb hby at_263) rfl rfl k) ?_
      refine own_stepW (f' := (own_G m i0 i1 i2 i3 i4 vb nn vk b5 b8 b11 ru rv rx b35 b37 .unset .unset .unset 267 [(.ref b8), (.ref b35)])) (fun _ k => XS.aload X245_44.here hx rfl (hb hby at_265) rfl rfl k) ?_
      refine own_stepW (f' := (own_G m i0 i1 i2 i3 i4 vb nn vk b5 b8 b11 ru rv rx b35 b37 .unset .unset .unset 269 [rv, (.ref b8), (.ref b35)])) (fun _ k => XS.aload X245_44.here hx rfl (hb hby at_267) rfl hr_rv k) ?_
      have Zq1046 : n0 ≤ hj229_40.size := Zj229_40
      obtain ⟨cq1046, kq1046, q1046a, q1046b, q1046c⟩ := isOf hZ39 e245_44 Fj229_40_9
      obtain ⟨_, _, ⟨T1046, L1046, k1046, n1046⟩, -, X1046, ⟨Lc1046, hQ1046, l1046, y1046, z1046⟩, st1046⟩ := X245_44.virtualBack hx (y := (⟨own_AC, "add", "(Lcom/example/valbonne/valbonne/codec/Name;Ljava/lang/String;)V"⟩ : MethodName)) (z := (⟨own_AC, "add", "(Lcom/example/valbonne/valbonne/codec/Name;Ljava/lang/String;)V"⟩ : MethodName)) hown39 (mvT hZ39 (own_w177 hw)) (mvT hZ39 (own_w178 hw)) (notFace_of_selects (args := #[]) (mvT hZ39 (own_w180 hw))) (mvT hZ39 (own_w180 hw)) (mvT hZ39 (own_w179 hw)) (by decide) (backOf (W := 0) (rm22n l Z a0 hw [] b35 b8 rv hj229_40 n0 Zq1046 Fj229_40_7 Fj229_40_12) hZ39 (own_w181 hw) (own_w60 hw) (by decide) (by decide)) q1046a q1046c (g := (own_G m i0 i1 i2 i3 i4 vb nn vk b5 b8 b11 ru rv rx b35 b37 .unset .unset .unset 269 [rv, (.ref b8), (.ref b35)])) rfl (by rw [hml]; rfl) (Steps.refl _) (argsL := [(.ref b8), rv]) (rest := []) (lenOf pd_11 rfl) rfl (by show 2 * 0 + _ ≤ _; exact Nat.le_of_eq rfl) (hb hby at_269) (fun _ _ => ⟨rfl, e245_44, (by decide : 30 + 0 ≤ _), (by decide : 156 + 0 ≤ _)⟩)
      dsimp only [Pt.U, Pt.locs, Pt.cells, Pt.slots] at X1046 l1046 y1046 z1046 st1046 hQ1046
      subst l1046 y1046 z1046
      obtain ⟨rfl, rfl, e1046⟩ := hQ1046
      try rw [List.append_nil] at X1046
      refine own_jumpW (f' := (own_G m i0 i1 i2 i3 i4 vb nn vk b5 b8 b11 ru rv rx b35 b37 .unset .unset .unset 272 [])) st1046 ?_
      exact J260_47 _  X1046 e1046 
    · refine own_stepW (f' := (own_G m i0 i1 i2 i3 i4 vb nn vk b5 b8 b11 ru rv rx b35 b37 .unset .unset .unset 272 [])) (fun _ k => XS.icmpYes X245_44.here hx rfl (pc0 := 260) (pc' := 272) rfl (hb hby at_260) rfl (flt hc260_45).2.2.2 (by decide) (by decide) k) ?_
      exact J260_47 _  X245_44 e245_44 
  by_cases hc245_42 : (0 : Int32) < nn
  · refine own_stepW (f' := (own_G m i0 i1 i2 i3 i4 vb nn vk b5 b8 b11 ru rv rx b35 b37 .unset .unset .unset 248 [])) (fun _ k => XS.ifNo X229_40.here hx rfl (hb hby at_245) rfl ((if0 _ _).trans (tlt hc245_42).2.2.2) k) ?_
    refine own_stepW (f' := (own_G m i0 i1 i2 i3 i4 vb nn vk b5 b8 b11 ru rv rx b35 b37 .unset .unset .unset 250 [(.ref b35)])) (fun _ k => XS.aload X229_40.here hx rfl (hb hby at_248) rfl rfl k) ?_
    refine own_stepW (f' := (own_G m i0 i1 i2 i3 i4 vb nn vk b5 b8 b11 ru rv rx b35 b37 .unset .unset .unset 252 [(.ref b5), (.ref b35)])) (fun _ k => XS.aload X229_40.here hx rfl (hb hby at_250) rfl rfl k) ?_
    refine own_stepW (f' := (own_G m i0 i1 i2 i3 i4 vb nn vk b5 b8 b11 ru rv rx b35 b37 .unset .unset .unset 254 [ru, (.ref b5), (.ref b35)])) (fun _ k => XS.aload X229_40.here hx rfl (hb hby at_252) rfl hr_ru k) ?_
    have Zq1043 : n0 ≤ hj229_40.size := Zj229_40
    obtain ⟨cq1043, kq1043, q1043a, q1043b, q1043c⟩ := isOf hZ39 e229_40 Fj229_40_9
    obtain ⟨_, _, ⟨T1043, L1043, k1043, n1043⟩, -, X1043, ⟨Lc1043, hQ1043, l1043, y1043, z1043⟩, st1043⟩ := X229_40.virtualBack hx (y := (⟨own_AC, "add", "(Lcom/example/valbonne/valbonne/codec/Name;Ljava/lang/String;)V"⟩ : MethodName)) (z := (⟨own_AC, "add", "(Lcom/example/valbonne/valbonne/codec/Name;Ljava/lang/String;)V"⟩ : MethodName)) hown39 (mvT hZ39 (own_w177 hw)) (mvT hZ39 (own_w178 hw)) (notFace_of_selects (args := #[]) (mvT hZ39 (own_w180 hw))) (mvT hZ39 (own_w180 hw)) (mvT hZ39 (own_w179 hw)) (by decide) (backOf (W := 0) (rm22n l Z a0 hw [] b35 b5 ru hj229_40 n0 Zq1043 Fj229_40_6 Fj229_40_12) hZ39 (own_w181 hw) (own_w60 hw) (by decide) (by decide)) q1043a q1043c (g := (own_G m i0 i1 i2 i3 i4 vb nn vk b5 b8 b11 ru rv rx b35 b37 .unset .unset .unset 254 [ru, (.ref b5), (.ref b35)])) rfl (by rw [hml]; rfl) (Steps.refl _) (argsL := [(.ref b5), ru]) (rest := []) (lenOf pd_11 rfl) rfl (by show 2 * 0 + _ ≤ _; exact Nat.le_of_eq rfl) (hb hby at_254) (fun _ _ => ⟨rfl, e229_40, (by decide : 30 + 0 ≤ _), (by decide : 156 + 0 ≤ _)⟩)
    dsimp only [Pt.U, Pt.locs, Pt.cells, Pt.slots] at X1043 l1043 y1043 z1043 st1043 hQ1043
    subst l1043 y1043 z1043
    obtain ⟨rfl, rfl, e1043⟩ := hQ1043
    try rw [List.append_nil] at X1043
    refine own_jumpW (f' := (own_G m i0 i1 i2 i3 i4 vb nn vk b5 b8 b11 ru rv rx b35 b37 .unset .unset .unset 257 [])) st1043 ?_
    exact J245_44 _  X1043 e1043 
  · refine own_stepW (f' := (own_G m i0 i1 i2 i3 i4 vb nn vk b5 b8 b11 ru rv rx b35 b37 .unset .unset .unset 257 [])) (fun _ k => XS.ifYes X229_40.here hx rfl (pc0 := 245) (pc' := 257) rfl (hb hby at_245) rfl ((if0 _ _).trans (flt hc245_42).2.2.2) (by decide) (by decide) k) ?_
    exact J245_44 _  X229_40 e229_40 
theorem own_w140 {a0 Z} (hw : own_HW a0 Z) : (Cond.methodLink "com/example/valbonne/valbonne/codec/AttributeCodingsAddPinLaw" (32 : Nat) ⟨"com/example/valbonne/valbonne/codec/AttributeCodings", "begin", "(Lcom/example/valbonne/valbonne/codec/StreamInput;Lcom/example/valbonne/valbonne/codec/DeclaredAttributes;Z)V"⟩).before a0 Z = true := own_at hw 140 rfl
theorem own_w144 {a0 Z} (hw : own_HW a0 Z) : (Cond.code ⟨"com/example/valbonne/valbonne/codec/AttributeCodings", "begin", "(Lcom/example/valbonne/valbonne/codec/StreamInput;Lcom/example/valbonne/valbonne/codec/DeclaredAttributes;Z)V"⟩ prog_11_method_3_code (4 : Nat) none).before a0 Z = true := own_at hw 144 rfl
theorem pd_25 : parseMethodDescriptor "(Lcom/example/valbonne/valbonne/codec/StreamInput;Lcom/example/valbonne/valbonne/codec/DeclaredAttributes;Z)V" = some ⟨[(.object "com/example/valbonne/valbonne/codec/StreamInput"), (.object "com/example/valbonne/valbonne/codec/DeclaredAttributes"), .boolean], none⟩ := by decide +kernel
theorem own_w143 {a0 Z} (hw : own_HW a0 Z) : (Cond.selects "com/example/valbonne/valbonne/codec/AttributeCodings" ⟨"com/example/valbonne/valbonne/codec/AttributeCodings", "begin", "(Lcom/example/valbonne/valbonne/codec/StreamInput;Lcom/example/valbonne/valbonne/codec/DeclaredAttributes;Z)V"⟩ ⟨"com/example/valbonne/valbonne/codec/AttributeCodings", "begin", "(Lcom/example/valbonne/valbonne/codec/StreamInput;Lcom/example/valbonne/valbonne/codec/DeclaredAttributes;Z)V"⟩).before a0 Z = true := own_at hw 143 rfl
theorem own_w141 {a0 Z} (hw : own_HW a0 Z) : (Cond.declares ⟨"com/example/valbonne/valbonne/codec/AttributeCodings", "begin", "(Lcom/example/valbonne/valbonne/codec/StreamInput;Lcom/example/valbonne/valbonne/codec/DeclaredAttributes;Z)V"⟩).before a0 Z = true := own_at hw 141 rfl
theorem own_w142 {a0 Z} (hw : own_HW a0 Z) : (Cond.instanceMethod ⟨"com/example/valbonne/valbonne/codec/AttributeCodings", "begin", "(Lcom/example/valbonne/valbonne/codec/StreamInput;Lcom/example/valbonne/valbonne/codec/DeclaredAttributes;Z)V"⟩).before a0 Z = true := own_at hw 142 rfl
theorem own_w222 {a0 Z} (hw : own_HW a0 Z) : (Cond.methodLink "com/example/valbonne/valbonne/codec/AttributeCodingsAddPinLaw" (54 : Nat) ⟨"com/example/valbonne/valbonne/codec/AttributeCodings$Coding", "size", "()I"⟩).before a0 Z = true := own_at hw 222 rfl
theorem own_w226 {a0 Z} (hw : own_HW a0 Z) : (Cond.code ⟨"com/example/valbonne/valbonne/codec/AttributeCodings$Coding", "size", "()I"⟩ prog_12_method_2_code (1 : Nat) (some FieldType.int)).before a0 Z = true := own_at hw 226 rfl
theorem own_w223 {a0 Z} (hw : own_HW a0 Z) : (Cond.declares ⟨"com/example/valbonne/valbonne/codec/AttributeCodings$Coding", "size", "()I"⟩).before a0 Z = true := own_at hw 223 rfl
theorem own_w224 {a0 Z} (hw : own_HW a0 Z) : (Cond.instanceMethod ⟨"com/example/valbonne/valbonne/codec/AttributeCodings$Coding", "size", "()I"⟩).before a0 Z = true := own_at hw 224 rfl
set_option maxRecDepth 65536 in
set_option maxHeartbeats 40000000 in
theorem own_J346_1064 (l : Launch) (Z : State) (a0 : Array Value) (hw : own_HW a0 Z) (h0 : Heap) (n0 : Nat) (p : Program) (e : Env) (s : State) (m : MethodId) (below : List Frame) (meth : Method) (c : Code) (hx : p.tables.exec = Jvm.exec) (hby : c.code = code) (hlk : meth.locks = false) (hml : c.maxLocals = 19) (hown0 : s.vm.findClass "com/example/valbonne/valbonne/codec/AttributeCodingsAddPinLaw" = some m.cls) (hZ0 : Z.Warmed39 s.vm) (hret : meth.sig.returnType = some .boolean) (i0 : Int32) (i1 : Int32) (i2 : Int32) (i3 : Int32) (i4 : Int32) (cz : Int32) (vb : Int32) (nn : Int32) (vk : Int32) (b5 : Addr) (b8 : Addr) (b11 : Addr) (ru : Value) (rv : Value) (rx : Value) (b35 : Addr) (b37 : Addr) (T39 : State) (z0_1046 : Addr) (y1_1046 : Addr) (y2_1046 : Addr) (ky2_1046 : ClassId) (y3_1046 : Addr) (ky3_1046 : ClassId) (sj289_1061 : own_St) (hr_ru : ru.isRef = true) (hr_rv : rv.isRef = true) (hr_rx : rx.isRef = true) (hZ39 : Z.Warmed39 (s.setVm T39.vm).vm) (hown39 : (s.setVm T39.vm).vm.findClass "com/example/valbonne/valbonne/codec/AttributeCodingsAddPinLaw" = some m.cls) (hS39 : s.Since T39.vm T39.heap.size) (hbeg : vb = (1 : Int32)) (hn : nn = (0 : Int32)) (hbk : vk = (0 : Int32)) (hk : sj289_1061.2.1 = 0) : ∀ (T346_1064 : State) (hj346_1064 : Heap) (Lj346_1064 : List Loc) , (Stand p l e room_1 (s.setVm T39.vm) m #[(.int i0), (.int i1), (.int i2), (.int i3), (.int i4)] below meth c T346_1064 Lj346_1064 34 262) → (T346_1064.heap = hj346_1064) → (Fr n0 Lj346_1064) → (n0 ≤ hj346_1064.size) → (T39.heap.size ≤ hj346_1064.size) → (own_Opt Z hj346_1064 ru "java/lang/String") → (own_Opt Z hj346_1064 rv "java/lang/String") → (own_Opt Z hj346_1064 rx "java/lang/String") → (Exa Z hj346_1064 z0_1046 own_CO) → (Arv Z hj346_1064 y2_1046 ky2_1046 (.object own_NM) (16 : Int32) sj289_1061.2.2.1 .null) → (Arv Z hj346_1064 y3_1046 ky3_1046 (.object "java/lang/String") (16 : Int32) sj289_1061.2.2.2 .null) → (Fld Z hj346_1064 z0_1046 own_CO "declared" "Lcom/example/valbonne/valbonne/codec/DeclaredAttributes;" .null) → (Fld Z hj346_1064 z0_1046 own_CO "loose" "Z" (.int (1 : Int32))) → (Fld Z hj346_1064 z0_1046 own_CO "page" "I" (.int (0 : Int32))) → (Fld Z hj346_1064 z0_1046 own_CO "endPage" "I" (.int (0 : Int32))) → (Fld Z hj346_1064 z0_1046 own_CO "bytes" "[B" (.ref y1_1046)) → (Fld Z hj346_1064 z0_1046 own_CO "length" "I" (.int (0 : Int32))) → (Fld Z hj346_1064 z0_1046 own_CO "names" "[Lcom/example/valbonne/valbonne/codec/Name;" (.ref y2_1046)) → (Fld Z hj346_1064 z0_1046 own_CO "values" "[Ljava/lang/String;" (.ref y3_1046)) → (Fld Z hj346_1064 z0_1046 own_CO "size" "I" (.int (Int32.ofNat sj289_1061.2.1))) → (Fld Z hj346_1064 z0_1046 own_CO "known" "Z" (.int (1 : Int32))) → own_GoesW p e below s (Q0 Z i0 i1 i2 i3 i4 cz h0 n0) room_1.cells room_1.slots T346_1064 (own_G m i0 i1 i2 i3 i4 vb nn vk b5 b8 b11 ru rv rx b35 b37 (.val (.ref z0_1046)) .unset .unset 346 []) := by
  have hown := hown0
  have hZ := hZ0
  intro T346_1064 hj346_1064 Lj346_1064  X346_1064 e346_1064 N346_1064 Zj346_1064 Ws346_1064 Fj346_1064_0 Fj346_1064_1 Fj346_1064_2 Fj346_1064_3 Fj346_1064_6 Fj346_1064_7 Fj346_1064_8 Fj346_1064_9 Fj346_1064_10 Fj346_1064_11 Fj346_1064_12 Fj346_1064_13 Fj346_1064_14 Fj346_1064_15 Fj346_1064_16 Fj346_1064_17
  have hr_ru : ru.isRef = true := Fj346_1064_0.isR
  have hr_rv : rv.isRef = true := Fj346_1064_1.isR
  have hr_rx : rx.isRef = true := Fj346_1064_2.isR
  refine own_stepW (f' := (own_G m i0 i1 i2 i3 i4 vb nn vk b5 b8 b11 ru rv rx b35 b37 (.val (.ref z0_1046)) .unset .unset 348 [(.int nn)])) (fun _ k => XS.iload X346_1064.here hx rfl (hb hby at_346) rfl k) ?_
  refine own_stepW (f' := (own_G m i0 i1 i2 i3 i4 vb nn vk b5 b8 b11 ru rv rx b35 b37 (.val (.ref z0_1046)) .unset .unset 350 [(.int vk), (.int nn)])) (fun _ k => XS.iload X346_1064.here hx rfl (hb hby at_348) rfl k) ?_
  have hf350_1065 : vk = (0 : Int32) := (by rw [hbk] <;> decide)
  refine own_stepW (f' := (own_G m i0 i1 i2 i3 i4 vb nn vk b5 b8 b11 ru rv rx b35 b37 (.val (.ref z0_1046)) .unset .unset 358 [(.int nn)])) (fun _ k => XS.ifYes X346_1064.here hx rfl (pc0 := 350) (pc' := 358) rfl (hb hby at_350) rfl ((if0 _ _).trans (teq hf350_1065).1) (by decide) (by decide) k) ?_
  refine own_stepW (f' := (own_G m i0 i1 i2 i3 i4 vb nn vk b5 b8 b11 ru rv rx b35 b37 (.val (.ref z0_1046)) .unset .unset 359 [(.int (0 : Int32)), (.int nn)])) (fun _ k => XS.iconst X346_1064.here hx rfl (hb hby at_358) k) ?_
  refine own_stepW (f' := (own_G m i0 i1 i2 i3 i4 vb nn vk b5 b8 b11 ru rv rx b35 b37 (.val (.ref z0_1046)) .unset .unset 360 [(.int (nn + (0 : Int32)))])) (fun _ k => XS.iadd X346_1064.here hx rfl (hb hby at_359) rfl k) ?_
  refine own_stepW (f' := (own_G m i0 i1 i2 i3 i4 vb nn vk b5 b8 b11 ru rv rx b35 b37 (.val (.ref z0_1046)) (.val (.int (nn + (0 : Int32)))) .unset 362 [])) (fun _ k => XS.istore X346_1064.here hx rfl (hb hby at_360) rfl (l' := #[.val (.int i0), .val (.int i1), .val (.int i2), .val (.int i3), .val (.int i4), .val (.int vb), .val (.int nn), .val (.int vk), .val (.ref b5), .val (.ref b8), .val (.ref b11), .val ru, .val rv, .val rx, .val (.ref b35), .val (.ref b37), .val (.ref z0_1046), .val (.int (nn + (0 : Int32))), .unset]) rfl k) ?_
  refine own_stepW (f' := (own_G m i0 i1 i2 i3 i4 vb nn vk b5 b8 b11 ru rv rx b35 b37 (.val (.ref z0_1046)) (.val (.int (nn + (0 : Int32)))) .unset 364 [(.int vb)])) (fun _ k => XS.iload X346_1064.here hx rfl (hb hby at_362) rfl k) ?_
  have hf364_1066 : ¬ (vb = (0 : Int32)) := (by rw [hbeg] <;> decide)
  refine own_stepW (f' := (own_G m i0 i1 i2 i3 i4 vb nn vk b5 b8 b11 ru rv rx b35 b37 (.val (.ref z0_1046)) (.val (.int (nn + (0 : Int32)))) .unset 367 [])) (fun _ k => XS.ifNo X346_1064.here hx rfl (hb hby at_364) rfl ((if0 _ _).trans (feq hf364_1066).1) k) ?_
  refine own_stepW (f' := (own_G m i0 i1 i2 i3 i4 vb nn vk b5 b8 b11 ru rv rx b35 b37 (.val (.ref z0_1046)) (.val (.int (nn + (0 : Int32)))) .unset 369 [(.int (nn + (0 : Int32)))])) (fun _ k => XS.iload X346_1064.here hx rfl (hb hby at_367) rfl k) ?_
  refine own_stepW (f' := (own_G m i0 i1 i2 i3 i4 vb nn vk b5 b8 b11 ru rv rx b35 b37 (.val (.ref z0_1046)) (.val (.int (nn + (0 : Int32)))) .unset 371 [(.int (16 : Int32)), (.int (nn + (0 : Int32)))])) (fun _ k => XS.bipush X346_1064.here hx rfl (hb hby at_369) k) ?_
  have hf371_1067 : ¬ ((16 : Int32) < (nn + (0 : Int32))) := (by rw [hn] <;> decide)
  refine own_stepW (f' := (own_G m i0 i1 i2 i3 i4 vb nn vk b5 b8 b11 ru rv rx b35 b37 (.val (.ref z0_1046)) (.val (.int (nn + (0 : Int32)))) .unset 389 [])) (fun _ k => XS.icmpYes X346_1064.here hx rfl (pc0 := 371) (pc' := 389) rfl (hb hby at_371) rfl (flt hf371_1067).2.2.2 (by decide) (by decide) k) ?_
  refine own_stepW (f' := (own_G m i0 i1 i2 i3 i4 vb nn vk b5 b8 b11 ru rv rx b35 b37 (.val (.ref z0_1046)) (.val (.int (nn + (0 : Int32)))) .unset 391 [(.ref z0_1046)])) (fun _ k => XS.aload X346_1064.here hx rfl (hb hby at_389) rfl rfl k) ?_
  refine own_stepW (f' := (own_G m i0 i1 i2 i3 i4 vb nn vk b5 b8 b11 ru rv rx b35 b37 (.val (.ref z0_1046)) (.val (.int (nn + (0 : Int32)))) .unset 394 [])) (fun _ k => XS.ifnullNo X346_1064.here hx rfl (hb hby at_391) rfl k) ?_
  refine own_stepW (f' := (own_G m i0 i1 i2 i3 i4 vb nn vk b5 b8 b11 ru rv rx b35 b37 (.val (.ref z0_1046)) (.val (.int (nn + (0 : Int32)))) .unset 396 [(.ref z0_1046)])) (fun _ k => XS.aload X346_1064.here hx rfl (hb hby at_394) rfl rfl k) ?_
  have Zq1068 : n0 ≤ hj346_1064.size := Zj346_1064
  obtain ⟨cq1068, kq1068, q1068a, q1068b, q1068c⟩ := isOf hZ39 e346_1064 Fj346_1064_3
  obtain ⟨_, _, ⟨T1068, L1068, k1068, n1068⟩, -, X1068, ⟨Lc1068, hQ1068, l1068, y1068, z1068⟩, st1068⟩ := X346_1064.virtualBack hx (y := (⟨own_CO, "size", "()I"⟩ : MethodName)) (z := (⟨own_CO, "size", "()I"⟩ : MethodName)) hown39 (mvT hZ39 (own_w222 hw)) (mvT hZ39 (own_w223 hw)) (notFace_of_selects (args := #[]) (mvT hZ39 (own_w225 hw))) (mvT hZ39 (own_w225 hw)) (mvT hZ39 (own_w224 hw)) (by decide) (backOf (W := 0) (rm28 l Z a0 hw [] z0_1046 (Int32.ofNat sj289_1061.2.1) hj346_1064 n0 Zq1068 Fj346_1064_16) hZ39 (own_w226 hw) (own_w148 hw) (by decide) (by decide)) q1068a q1068c (g := (own_G m i0 i1 i2 i3 i4 vb nn vk b5 b8 b11 ru rv rx b35 b37 (.val (.ref z0_1046)) (.val (.int (nn + (0 : Int32)))) .unset 396 [(.ref z0_1046)])) rfl (by rw [hml]; rfl) (Steps.refl _) (argsL := []) (rest := []) (lenOf pd_8 rfl) rfl (by show 2 * 0 + _ ≤ _; exact Nat.le_of_eq rfl) (hb hby at_396) (fun _ _ => ⟨rfl, e346_1064, (by decide : 34 + 0 ≤ _), (by decide : 262 + 0 ≤ _)⟩)
  dsimp only [Pt.U, Pt.locs, Pt.cells, Pt.slots] at X1068 l1068 y1068 z1068 st1068 hQ1068
  subst l1068 y1068 z1068
  obtain ⟨rfl, rfl, e1068⟩ := hQ1068
  try rw [List.append_nil] at X1068
  refine own_jumpW (f' := (own_G m i0 i1 i2 i3 i4 vb nn vk b5 b8 b11 ru rv rx b35 b37 (.val (.ref z0_1046)) (.val (.int (nn + (0 : Int32)))) .unset 399 [(.int (Int32.ofNat sj289_1061.2.1))])) st1068 ?_
  refine own_stepW (f' := (own_G m i0 i1 i2 i3 i4 vb nn vk b5 b8 b11 ru rv rx b35 b37 (.val (.ref z0_1046)) (.val (.int (nn + (0 : Int32)))) .unset 401 [(.int (nn + (0 : Int32))), (.int (Int32.ofNat sj289_1061.2.1))])) (fun _ k => XS.iload X1068.here hx rfl (hb hby at_399) rfl k) ?_
  have hf401_1069 : (Int32.ofNat sj289_1061.2.1) = (nn + (0 : Int32)) := (by rw [hk, hn] <;> decide)
  refine own_stepW (f' := (own_G m i0 i1 i2 i3 i4 vb nn vk b5 b8 b11 ru rv rx b35 b37 (.val (.ref z0_1046)) (.val (.int (nn + (0 : Int32)))) .unset 404 [])) (fun _ k => XS.icmpNo X1068.here hx rfl (hb hby at_401) rfl (teq hf401_1069).2 k) ?_
  refine own_stepW (f' := (own_G m i0 i1 i2 i3 i4 vb nn vk b5 b8 b11 ru rv rx b35 b37 (.val (.ref z0_1046)) (.val (.int (nn + (0 : Int32)))) .unset 406 [(.int nn)])) (fun _ k => XS.iload X1068.here hx rfl (hb hby at_404) rfl k) ?_
  refine own_stepW (f' := (own_G m i0 i1 i2 i3 i4 vb nn vk b5 b8 b11 ru rv rx b35 b37 (.val (.ref z0_1046)) (.val (.int (nn + (0 : Int32)))) .unset 407 [(.int (1 : Int32)), (.int nn)])) (fun _ k => XS.iconst X1068.here hx rfl (hb hby at_406) k) ?_
  have hf407_1070 : nn < (1 : Int32) := (by rw [hn] <;> decide)
  refine own_stepW (f' := (own_G m i0 i1 i2 i3 i4 vb nn vk b5 b8 b11 ru rv rx b35 b37 (.val (.ref z0_1046)) (.val (.int (nn + (0 : Int32)))) .unset 423 [])) (fun _ k => XS.icmpYes X1068.here hx rfl (pc0 := 407) (pc' := 423) rfl (hb hby at_407) rfl (tlt hf407_1070).1 (by decide) (by decide) k) ?_
  refine own_stepW (f' := (own_G m i0 i1 i2 i3 i4 vb nn vk b5 b8 b11 ru rv rx b35 b37 (.val (.ref z0_1046)) (.val (.int (nn + (0 : Int32)))) .unset 425 [(.int nn)])) (fun _ k => XS.iload X1068.here hx rfl (hb hby at_423) rfl k) ?_
  refine own_stepW (f' := (own_G m i0 i1 i2 i3 i4 vb nn vk b5 b8 b11 ru rv rx b35 b37 (.val (.ref z0_1046)) (.val (.int (nn + (0 : Int32)))) .unset 426 [(.int (2 : Int32)), (.int nn)])) (fun _ k => XS.iconst X1068.here hx rfl (hb hby at_425) k) ?_
  have hf426_1071 : nn < (2 : Int32) := (by rw [hn] <;> decide)
  refine own_stepW (f' := (own_G m i0 i1 i2 i3 i4 vb nn vk b5 b8 b11 ru rv rx b35 b37 (.val (.ref z0_1046)) (.val (.int (nn + (0 : Int32)))) .unset 442 [])) (fun _ k => XS.icmpYes X1068.here hx rfl (pc0 := 426) (pc' := 442) rfl (hb hby at_426) rfl (tlt hf426_1071).1 (by decide) (by decide) k) ?_
  refine own_stepW (f' := (own_G m i0 i1 i2 i3 i4 vb nn vk b5 b8 b11 ru rv rx b35 b37 (.val (.ref z0_1046)) (.val (.int (nn + (0 : Int32)))) .unset 444 [(.int nn)])) (fun _ k => XS.iload X1068.here hx rfl (hb hby at_442) rfl k) ?_
  refine own_stepW (f' := (own_G m i0 i1 i2 i3 i4 vb nn vk b5 b8 b11 ru rv rx b35 b37 (.val (.ref z0_1046)) (.val (.int (nn + (0 : Int32)))) .unset 445 [(.int (3 : Int32)), (.int nn)])) (fun _ k => XS.iconst X1068.here hx rfl (hb hby at_444) k) ?_
  have hf445_1072 : nn < (3 : Int32) := (by rw [hn] <;> decide)
  refine own_stepW (f' := (own_G m i0 i1 i2 i3 i4 vb nn vk b5 b8 b11 ru rv rx b35 b37 (.val (.ref z0_1046)) (.val (.int (nn + (0 : Int32)))) .unset 461 [])) (fun _ k => XS.icmpYes X1068.here hx rfl (pc0 := 445) (pc' := 461) rfl (hb hby at_445) rfl (tlt hf445_1072).1 (by decide) (by decide) k) ?_
  refine own_stepW (f' := (own_G m i0 i1 i2 i3 i4 vb nn vk b5 b8 b11 ru rv rx b35 b37 (.val (.ref z0_1046)) (.val (.int (nn + (0 : Int32)))) .unset 463 [(.int vk)])) (fun _ k => XS.iload X1068.here hx rfl (hb hby at_461) rfl k) ?_
  have hf463_1073 : vk = (0 : Int32) := (by rw [hbk] <;> decide)
  refine own_stepW (f' := (own_G m i0 i1 i2 i3 i4 vb nn vk b5 b8 b11 ru rv rx b35 b37 (.val (.ref z0_1046)) (.val (.int (nn + (0 : Int32)))) .unset 507 [])) (fun _ k => XS.ifYes X1068.here hx rfl (pc0 := 463) (pc' := 507) rfl (hb hby at_463) rfl ((if0 _ _).trans (teq hf463_1073).1) (by decide) (by decide) k) ?_
  refine own_stepW (f' := (own_G m i0 i1 i2 i3 i4 vb nn vk b5 b8 b11 ru rv rx b35 b37 (.val (.ref z0_1046)) (.val (.int (nn + (0 : Int32)))) .unset 508 [(.int (1 : Int32))])) (fun _ k => XS.iconst X1068.here hx rfl (hb hby at_507) k) ?_
  refine own_stepW (f' := (own_G m i0 i1 i2 i3 i4 vb nn vk b5 b8 b11 ru rv rx b35 b37 (.val (.ref z0_1046)) (.val (.int (nn + (0 : Int32)))) .unset 512 [(.int (1 : Int32))])) (fun _ k => XS.goto X1068.here hx rfl (pc0 := 508) (pc' := 512) rfl (hb hby at_508) (by decide) (by decide) k) ?_
  refine own_stepW (f' := (own_G m i0 i1 i2 i3 i4 vb nn vk b5 b8 b11 ru rv rx b35 b37 (.val (.ref z0_1046)) (.val (.int (nn + (0 : Int32)))) (.val (.int (1 : Int32))) 514 [])) (fun _ k => XS.istore X1068.here hx rfl (hb hby at_512) rfl (l' := #[.val (.int i0), .val (.int i1), .val (.int i2), .val (.int i3), .val (.int i4), .val (.int vb), .val (.int nn), .val (.int vk), .val (.ref b5), .val (.ref b8), .val (.ref b11), .val ru, .val rv, .val rx, .val (.ref b35), .val (.ref b37), .val (.ref z0_1046), .val (.int (nn + (0 : Int32))), .val (.int (1 : Int32))]) rfl k) ?_
  refine own_stepW (f' := (own_G m i0 i1 i2 i3 i4 vb nn vk b5 b8 b11 ru rv rx b35 b37 (.val (.ref z0_1046)) (.val (.int (nn + (0 : Int32)))) (.val (.int (1 : Int32))) 516 [(.int (1 : Int32))])) (fun _ k => XS.iload X1068.here hx rfl (hb hby at_514) rfl k) ?_
  refine own_outW (v := some (.int (1 : Int32))) X1068 hS39 (by rw [e1068]; exact Ws346_1064) hlk (fun h => by rw [hret] at h; cases h) (fun fs hr => retN X1068 hx (t := .boolean) hret (by simp) (hb hby at_516) hr) (by decide) (by decide) ?_
  exact ⟨rfl, N346_1064⟩
theorem own_w227 {a0 Z} (hw : own_HW a0 Z) : (Cond.methodLink "com/example/valbonne/valbonne/codec/AttributeCodingsAddPinLaw" (60 : Nat) ⟨"com/example/valbonne/valbonne/codec/AttributeCodingsAddPinLaw", "at", "(Lcom/example/valbonne/valbonne/codec/AttributeCodings$Coding;ILcom/example/valbonne/valbonne/codec/Name;Ljava/lang/String;)Z"⟩).before a0 Z = true := own_at hw 227 rfl
theorem own_w230 {a0 Z} (hw : own_HW a0 Z) : (Cond.code ⟨"com/example/valbonne/valbonne/codec/AttributeCodingsAddPinLaw", "at", "(Lcom/example/valbonne/valbonne/codec/AttributeCodings$Coding;ILcom/example/valbonne/valbonne/codec/Name;Ljava/lang/String;)Z"⟩ method_4_code (4 : Nat) (some FieldType.boolean)).before a0 Z = true := own_at hw 230 rfl
theorem pd_26 : parseMethodDescriptor "(Lcom/example/valbonne/valbonne/codec/AttributeCodings$Coding;ILcom/example/valbonne/valbonne/codec/Name;Ljava/lang/String;)Z" = some ⟨[(.object "com/example/valbonne/valbonne/codec/AttributeCodings$Coding"), .int, (.object "com/example/valbonne/valbonne/codec/Name"), (.object "java/lang/String")], some .boolean⟩ := by decide +kernel
theorem own_w228 {a0 Z} (hw : own_HW a0 Z) : (Cond.static ⟨"com/example/valbonne/valbonne/codec/AttributeCodingsAddPinLaw", "at", "(Lcom/example/valbonne/valbonne/codec/AttributeCodings$Coding;ILcom/example/valbonne/valbonne/codec/Name;Ljava/lang/String;)Z"⟩).before a0 Z = true := own_at hw 228 rfl
set_option maxRecDepth 65536 in
set_option maxHeartbeats 40000000 in
theorem own_J346_1074 (l : Launch) (Z : State) (a0 : Array Value) (hw : own_HW a0 Z) (h0 : Heap) (n0 : Nat) (p : Program) (e : Env) (s : State) (m : MethodId) (below : List Frame) (meth : Method) (c : Code) (hx : p.tables.exec = Jvm.exec) (hby : c.code = code) (hlk : meth.locks = false) (hml : c.maxLocals = 19) (hown0 : s.vm.findClass "com/example/valbonne/valbonne/codec/AttributeCodingsAddPinLaw" = some m.cls) (hZ0 : Z.Warmed39 s.vm) (hret : meth.sig.returnType = some .boolean) (i0 : Int32) (i1 : Int32) (i2 : Int32) (i3 : Int32) (i4 : Int32) (cz : Int32) (vb : Int32) (nn : Int32) (vk : Int32) (b5 : Addr) (b8 : Addr) (b11 : Addr) (ru : Value) (rv : Value) (rx : Value) (b35 : Addr) (b37 : Addr) (T39 : State) (z0_1046 : Addr) (y1_1046 : Addr) (y2_1046 : Addr) (ky2_1046 : ClassId) (y3_1046 : Addr) (ky3_1046 : ClassId) (sj289_1061 : own_St) (hr_ru : ru.isRef = true) (hr_rv : rv.isRef = true) (hr_rx : rx.isRef = true) (hZ39 : Z.Warmed39 (s.setVm T39.vm).vm) (hown39 : (s.setVm T39.vm).vm.findClass "com/example/valbonne/valbonne/codec/AttributeCodingsAddPinLaw" = some m.cls) (hS39 : s.Since T39.vm T39.heap.size) (hbeg : vb = (1 : Int32)) (hn : nn = (1 : Int32)) (hbk : vk = (0 : Int32)) (hk : sj289_1061.2.1 = 1) (pz0 : sj289_1061.2.2.1.getD 0 .null = .ref b5) (qz0 : sj289_1061.2.2.2.getD 0 .null = ru) : ∀ (T346_1074 : State) (hj346_1074 : Heap) (Lj346_1074 : List Loc) , (Stand p l e room_1 (s.setVm T39.vm) m #[(.int i0), (.int i1), (.int i2), (.int i3), (.int i4)] below meth c T346_1074 Lj346_1074 34 262) → (T346_1074.heap = hj346_1074) → (Fr n0 Lj346_1074) → (n0 ≤ hj346_1074.size) → (T39.heap.size ≤ hj346_1074.size) → (own_Opt Z hj346_1074 ru "java/lang/String") → (own_Opt Z hj346_1074 rv "java/lang/String") → (own_Opt Z hj346_1074 rx "java/lang/String") → (Exa Z hj346_1074 z0_1046 own_CO) → (Arv Z hj346_1074 y2_1046 ky2_1046 (.object own_NM) (16 : Int32) sj289_1061.2.2.1 .null) → (Arv Z hj346_1074 y3_1046 ky3_1046 (.object "java/lang/String") (16 : Int32) sj289_1061.2.2.2 .null) → (Fld Z hj346_1074 z0_1046 own_CO "declared" "Lcom/example/valbonne/valbonne/codec/DeclaredAttributes;" .null) → (Fld Z hj346_1074 z0_1046 own_CO "loose" "Z" (.int (1 : Int32))) → (Fld Z hj346_1074 z0_1046 own_CO "page" "I" (.int (0 : Int32))) → (Fld Z hj346_1074 z0_1046 own_CO "endPage" "I" (.int (0 : Int32))) → (Fld Z hj346_1074 z0_1046 own_CO "bytes" "[B" (.ref y1_1046)) → (Fld Z hj346_1074 z0_1046 own_CO "length" "I" (.int (0 : Int32))) → (Fld Z hj346_1074 z0_1046 own_CO "names" "[Lcom/example/valbonne/valbonne/codec/Name;" (.ref y2_1046)) → (Fld Z hj346_1074 z0_1046 own_CO "values" "[Ljava/lang/String;" (.ref y3_1046)) → (Fld Z hj346_1074 z0_1046 own_CO "size" "I" (.int (Int32.ofNat sj289_1061.2.1))) → (Fld Z hj346_1074 z0_1046 own_CO "known" "Z" (.int (1 : Int32))) → own_GoesW p e below s (Q0 Z i0 i1 i2 i3 i4 cz h0 n0) room_1.cells room_1.slots T346_1074 (own_G m i0 i1 i2 i3 i4 vb nn vk b5 b8 b11 ru rv rx b35 b37 (.val (.ref z0_1046)) .unset .unset 346 []) := by
  have hown := hown0
  have hZ := hZ0
  intro T346_1074 hj346_1074 Lj346_1074  X346_1074 e346_1074 N346_1074 Zj346_1074 Ws346_1074 Fj346_1074_0 Fj346_1074_1 Fj346_1074_2 Fj346_1074_3 Fj346_1074_6 Fj346_1074_7 Fj346_1074_8 Fj346_1074_9 Fj346_1074_10 Fj346_1074_11 Fj346_1074_12 Fj346_1074_13 Fj346_1074_14 Fj346_1074_15 Fj346_1074_16 Fj346_1074_17
  have hr_ru : ru.isRef = true := Fj346_1074_0.isR
  have hr_rv : rv.isRef = true := Fj346_1074_1.isR
  have hr_rx : rx.isRef = true := Fj346_1074_2.isR
  refine own_stepW (f' := (own_G m i0 i1 i2 i3 i4 vb nn vk b5 b8 b11 ru rv rx b35 b37 (.val (.ref z0_1046)) .unset .unset 348 [(.int nn)])) (fun _ k => XS.iload X346_1074.here hx rfl (hb hby at_346) rfl k) ?_
  refine own_stepW (f' := (own_G m i0 i1 i2 i3 i4 vb nn vk b5 b8 b11 ru rv rx b35 b37 (.val (.ref z0_1046)) .unset .unset 350 [(.int vk), (.int nn)])) (fun _ k => XS.iload X346_1074.here hx rfl (hb hby at_348) rfl k) ?_
  have hf350_1075 : vk = (0 : Int32) := (by rw [hbk] <;> decide)
  refine own_stepW (f' := (own_G m i0 i1 i2 i3 i4 vb nn vk b5 b8 b11 ru rv rx b35 b37 (.val (.ref z0_1046)) .unset .unset 358 [(.int nn)])) (fun _ k => XS.ifYes X346_1074.here hx rfl (pc0 := 350) (pc' := 358) rfl (hb hby at_350) rfl ((if0 _ _).trans (teq hf350_1075).1) (by decide) (by decide) k) ?_
  refine own_stepW (f' := (own_G m i0 i1 i2 i3 i4 vb nn vk b5 b8 b11 ru rv rx b35 b37 (.val (.ref z0_1046)) .unset .unset 359 [(.int (0 : Int32)), (.int nn)])) (fun _ k => XS.iconst X346_1074.here hx rfl (hb hby at_358) k) ?_
  refine own_stepW (f' := (own_G m i0 i1 i2 i3 i4 vb nn vk b5 b8 b11 ru rv rx b35 b37 (.val (.ref z0_1046)) .unset .unset 360 [(.int (nn + (0 : Int32)))])) (fun _ k => XS.iadd X346_1074.here hx rfl (hb hby at_359) rfl k) ?_
  refine own_stepW (f' := (own_G m i0 i1 i2 i3 i4 vb nn vk b5 b8 b11 ru rv rx b35 b37 (.val (.ref z0_1046)) (.val (.int (nn + (0 : Int32)))) .unset 362 [])) (fun _ k => XS.istore X346_1074.here hx rfl (hb hby at_360) rfl (l' := #[.val (.int i0), .val (.int i1), .val (.int i2), .val (.int i3), .val (.int i4), .val (.int vb), .val (.int nn), .val (.int vk), .val (.ref b5), .val (.ref b8), .val (.ref b11), .val ru, .val rv, .val rx, .val (.ref b35), .val (.ref b37), .val (.ref z0_1046), .val (.int (nn + (0 : Int32))), .unset]) rfl k) ?_
  refine own_stepW (f' := (own_G m i0 i1 i2 i3 i4 vb nn vk b5 b8 b11 ru rv rx b35 b37 (.val (.ref z0_1046)) (.val (.int (nn + (0 : Int32)))) .unset 364 [(.int vb)])) (fun _ k => XS.iload X346_1074.here hx rfl (hb hby at_362) rfl k) ?_
  have hf364_1076 : ¬ (vb = (0 : Int32)) := (by rw [hbeg] <;> decide)
  refine own_stepW (f' := (own_G m i0 i1 i2 i3 i4 vb nn vk b5 b8 b11 ru rv rx b35 b37 (.val (.ref z0_1046)) (.val (.int (nn + (0 : Int32)))) .unset 367 [])) (fun _ k => XS.ifNo X346_1074.here hx rfl (hb hby at_364) rfl ((if0 _ _).trans (feq hf364_1076).1) k) ?_
  refine own_stepW (f' := (own_G m i0 i1 i2 i3 i4 vb nn vk b5 b8 b11 ru rv rx b35 b37 (.val (.ref z0_1046)) (.val (.int (nn + (0 : Int32)))) .unset 369 [(.int (nn + (0 : Int32)))])) (fun _ k => XS.iload X346_1074.here hx rfl (hb hby at_367) rfl k) ?_
  refine own_stepW (f' := (own_G m i0 i1 i2 i3 i4 vb nn vk b5 b8 b11 ru rv rx b35 b37 (.val (.ref z0_1046)) (.val (.int (nn + (0 : Int32)))) .unset 371 [(.int (16 : Int32)), (.int (nn + (0 : Int32)))])) (fun _ k => XS.bipush X346_1074.here hx rfl (hb hby at_369) k) ?_
  have hf371_1077 : ¬ ((16 : Int32) < (nn + (0 : Int32))) := (by rw [hn] <;> decide)
  refine own_stepW (f' := (own_G m i0 i1 i2 i3 i4 vb nn vk b5 b8 b11 ru rv rx b35 b37 (.val (.ref z0_1046)) (.val (.int (nn + (0 : Int32)))) .unset 389 [])) (fun _ k => XS.icmpYes X346_1074.here hx rfl (pc0 := 371) (pc' := 389) rfl (hb hby at_371) rfl (flt hf371_1077).2.2.2 (by decide) (by decide) k) ?_
  refine own_stepW (f' := (own_G m i0 i1 i2 i3 i4 vb nn vk b5 b8 b11 ru rv rx b35 b37 (.val (.ref z0_1046)) (.val (.int (nn + (0 : Int32)))) .unset 391 [(.ref z0_1046)])) (fun _ k => XS.aload X346_1074.here hx rfl (hb hby at_389) rfl rfl k) ?_
  refine own_stepW (f' := (own_G m i0 i1 i2 i3 i4 vb nn vk b5 b8 b11 ru rv rx b35 b37 (.val (.ref z0_1046)) (.val (.int (nn + (0 : Int32)))) .unset 394 [])) (fun _ k => XS.ifnullNo X346_1074.here hx rfl (hb hby at_391) rfl k) ?_
  refine own_stepW (f' := (own_G m i0 i1 i2 i3 i4 vb nn vk b5 b8 b11 ru rv rx b35 b37 (.val (.ref z0_1046)) (.val (.int (nn + (0 : Int32)))) .unset 396 [(.ref z0_1046)])) (fun _ k => XS.aload X346_1074.here hx rfl (hb hby at_394) rfl rfl k) ?_
  have Zq1078 : n0 ≤ hj346_1074.size := Zj346_1074
  obtain ⟨cq1078, kq1078, q1078a, q1078b, q1078c⟩ := isOf hZ39 e346_1074 Fj346_1074_3
  obtain ⟨_, _, ⟨T1078, L1078, k1078, n1078⟩, -, X1078, ⟨Lc1078, hQ1078, l1078, y1078, z1078⟩, st1078⟩ := X346_1074.virtualBack hx (y := (⟨own_CO, "size", "()I"⟩ : MethodName)) (z := (⟨own_CO, "size", "()I"⟩ : MethodName)) hown39 (mvT hZ39 (own_w222 hw)) (mvT hZ39 (own_w223 hw)) (notFace_of_selects (args := #[]) (mvT hZ39 (own_w225 hw))) (mvT hZ39 (own_w225 hw)) (mvT hZ39 (own_w224 hw)) (by decide) (backOf (W := 0) (rm28 l Z a0 hw [] z0_1046 (Int32.ofNat sj289_1061.2.1) hj346_1074 n0 Zq1078 Fj346_1074_16) hZ39 (own_w226 hw) (own_w148 hw) (by decide) (by decide)) q1078a q1078c (g := (own_G m i0 i1 i2 i3 i4 vb nn vk b5 b8 b11 ru rv rx b35 b37 (.val (.ref z0_1046)) (.val (.int (nn + (0 : Int32)))) .unset 396 [(.ref z0_1046)])) rfl (by rw [hml]; rfl) (Steps.refl _) (argsL := []) (rest := []) (lenOf pd_8 rfl) rfl (by show 2 * 0 + _ ≤ _; exact Nat.le_of_eq rfl) (hb hby at_396) (fun _ _ => ⟨rfl, e346_1074, (by decide : 34 + 0 ≤ _), (by decide : 262 + 0 ≤ _)⟩)
  dsimp only [Pt.U, Pt.locs, Pt.cells, Pt.slots] at X1078 l1078 y1078 z1078 st1078 hQ1078
  subst l1078 y1078 z1078
  obtain ⟨rfl, rfl, e1078⟩ := hQ1078
  try rw [List.append_nil] at X1078
  refine own_jumpW (f' := (own_G m i0 i1 i2 i3 i4 vb nn vk b5 b8 b11 ru rv rx b35 b37 (.val (.ref z0_1046)) (.val (.int (nn + (0 : Int32)))) .unset 399 [(.int (Int32.ofNat sj289_1061.2.1))])) st1078 ?_
  refine own_stepW (f' := (own_G m i0 i1 i2 i3 i4 vb nn vk b5 b8 b11 ru rv rx b35 b37 (.val (.ref z0_1046)) (.val (.int (nn + (0 : Int32)))) .unset 401 [(.int (nn + (0 : Int32))), (.int (Int32.ofNat sj289_1061.2.1))])) (fun _ k => XS.iload X1078.here hx rfl (hb hby at_399) rfl k) ?_
  have hf401_1079 : (Int32.ofNat sj289_1061.2.1) = (nn + (0 : Int32)) := (by rw [hk, hn] <;> decide)
  refine own_stepW (f' := (own_G m i0 i1 i2 i3 i4 vb nn vk b5 b8 b11 ru rv rx b35 b37 (.val (.ref z0_1046)) (.val (.int (nn + (0 : Int32)))) .unset 404 [])) (fun _ k => XS.icmpNo X1078.here hx rfl (hb hby at_401) rfl (teq hf401_1079).2 k) ?_
  refine own_stepW (f' := (own_G m i0 i1 i2 i3 i4 vb nn vk b5 b8 b11 ru rv rx b35 b37 (.val (.ref z0_1046)) (.val (.int (nn + (0 : Int32)))) .unset 406 [(.int nn)])) (fun _ k => XS.iload X1078.here hx rfl (hb hby at_404) rfl k) ?_
  refine own_stepW (f' := (own_G m i0 i1 i2 i3 i4 vb nn vk b5 b8 b11 ru rv rx b35 b37 (.val (.ref z0_1046)) (.val (.int (nn + (0 : Int32)))) .unset 407 [(.int (1 : Int32)), (.int nn)])) (fun _ k => XS.iconst X1078.here hx rfl (hb hby at_406) k) ?_
  have hf407_1080 : ¬ (nn < (1 : Int32)) := (by rw [hn] <;> decide)
  refine own_stepW (f' := (own_G m i0 i1 i2 i3 i4 vb nn vk b5 b8 b11 ru rv rx b35 b37 (.val (.ref z0_1046)) (.val (.int (nn + (0 : Int32)))) .unset 410 [])) (fun _ k => XS.icmpNo X1078.here hx rfl (hb hby at_407) rfl (flt hf407_1080).1 k) ?_
  refine own_stepW (f' := (own_G m i0 i1 i2 i3 i4 vb nn vk b5 b8 b11 ru rv rx b35 b37 (.val (.ref z0_1046)) (.val (.int (nn + (0 : Int32)))) .unset 412 [(.ref z0_1046)])) (fun _ k => XS.aload X1078.here hx rfl (hb hby at_410) rfl rfl k) ?_
  refine own_stepW (f' := (own_G m i0 i1 i2 i3 i4 vb nn vk b5 b8 b11 ru rv rx b35 b37 (.val (.ref z0_1046)) (.val (.int (nn + (0 : Int32)))) .unset 413 [(.int (0 : Int32)), (.ref z0_1046)])) (fun _ k => XS.iconst X1078.here hx rfl (hb hby at_412) k) ?_
  refine own_stepW (f' := (own_G m i0 i1 i2 i3 i4 vb nn vk b5 b8 b11 ru rv rx b35 b37 (.val (.ref z0_1046)) (.val (.int (nn + (0 : Int32)))) .unset 415 [(.ref b5), (.int (0 : Int32)), (.ref z0_1046)])) (fun _ k => XS.aload X1078.here hx rfl (hb hby at_413) rfl rfl k) ?_
  refine own_stepW (f' := (own_G m i0 i1 i2 i3 i4 vb nn vk b5 b8 b11 ru rv rx b35 b37 (.val (.ref z0_1046)) (.val (.int (nn + (0 : Int32)))) .unset 417 [ru, (.ref b5), (.int (0 : Int32)), (.ref z0_1046)])) (fun _ k => XS.aload X1078.here hx rfl (hb hby at_415) rfl hr_ru k) ?_
  have hp1081_hj : ¬ (0 : Int32) < (0 : Int32) ∧ (0 : Int32) < (16 : Int32) := ⟨by decide, by decide⟩
  have hp1081_hq1 : sj289_1061.2.2.1.getD (0 : Int32).toNatClampNeg .null = .ref b5 := pz0
  have hp1081_hq2 : sj289_1061.2.2.2.getD (0 : Int32).toNatClampNeg .null = ru := qz0
  have Zq1081 : n0 ≤ hj346_1074.size := Zj346_1074
  obtain ⟨_, _, ⟨T1081, L1081, k1081, n1081⟩, -, X1081, ⟨Lc1081, hQ1081, l1081, y1081, z1081⟩, st1081⟩ := Jvm.LawKit.callS X1078 hx (y := (⟨"com/example/valbonne/valbonne/codec/AttributeCodingsAddPinLaw", "at", "(Lcom/example/valbonne/valbonne/codec/AttributeCodings$Coding;ILcom/example/valbonne/valbonne/codec/Name;Ljava/lang/String;)Z"⟩ : MethodName)) hown39 (mvT hZ39 (own_w227 hw)) (mvT hZ39 (own_w228 hw)) (mvT hZ39 (own_w229 hw)) (mvT hZ39 (own_w230 hw)) (by decide) (backOf (W := 0) (rm29 l Z a0 hw [] z0_1046 (0 : Int32) b5 ru y2_1046 ky2_1046 sj289_1061.2.2.1 y3_1046 ky3_1046 sj289_1061.2.2.2 hj346_1074 n0 Zq1081 Fj346_1074_0 Fj346_1074_3 Fj346_1074_14 Fj346_1074_6 Fj346_1074_15 Fj346_1074_7 hp1081_hj hp1081_hq1 hp1081_hq2) hZ39 (own_w230 hw) (own_w229 hw) (by decide) (by decide)) (g := (own_G m i0 i1 i2 i3 i4 vb nn vk b5 b8 b11 ru rv rx b35 b37 (.val (.ref z0_1046)) (.val (.int (nn + (0 : Int32)))) .unset 417 [ru, (.ref b5), (.int (0 : Int32)), (.ref z0_1046)])) rfl (by rw [hml]; rfl) (argsL := [(.ref z0_1046), (.int (0 : Int32)), (.ref b5), ru]) (rest := []) (lenOf pd_26 rfl) rfl (by show 2 * 0 + _ ≤ _; exact Nat.le_of_eq rfl) (hb hby at_417) (fun _ _ => ⟨rfl, e1078, (by decide : 34 + 0 ≤ _), (by decide : 262 + 0 ≤ _)⟩)
  dsimp only [Pt.U, Pt.locs, Pt.cells, Pt.slots] at X1081 l1081 y1081 z1081 st1081 hQ1081
  subst l1081 y1081 z1081
  obtain ⟨rfl, rfl, e1081⟩ := hQ1081
  try rw [List.append_nil] at X1081
  refine own_stepW (f' := (own_G m i0 i1 i2 i3 i4 vb nn vk b5 b8 b11 ru rv rx b35 b37 (.val (.ref z0_1046)) (.val (.int (nn + (0 : Int32)))) .unset 420 [(.int (1 : Int32))])) st1081 ?_
  refine own_stepW (f' := (own_G m i0 i1 i2 i3 i4 vb nn vk b5 b8 b11 ru rv rx b35 b37 (.val (.ref z0_1046)) (.val (.int (nn + (0 : Int32)))) .unset 423 [])) (fun _ k => XS.ifNo X1081.here hx rfl (hb hby at_420) rfl ((if0 _ _).trans (feq (by decide : ¬ ((1 : Int32) = (0 : Int32)))).1) k) ?_
  refine own_stepW (f' := (own_G m i0 i1 i2 i3 i4 vb nn vk b5 b8 b11 ru rv rx b35 b37 (.val (.ref z0_1046)) (.val (.int (nn + (0 : Int32)))) .unset 425 [(.int nn)])) (fun _ k => XS.iload X1081.here hx rfl (hb hby at_423) rfl k) ?_
  refine own_stepW (f' := (own_G m i0 i1 i2 i3 i4 vb nn vk b5 b8 b11 ru rv rx b35 b37 (.val (.ref z0_1046)) (.val (.int (nn + (0 : Int32)))) .unset 426 [(.int (2 : Int32)), (.int nn)])) (fun _ k => XS.iconst X1081.here hx rfl (hb hby at_425) k) ?_
  have hf426_1082 : nn < (2 : Int32) := (by rw [hn] <;> decide)
  refine own_stepW (f' := (own_G m i0 i1 i2 i3 i4 vb nn vk b5 b8 b11 ru rv rx b35 b37 (.val (.ref z0_1046)) (.val (.int (nn + (0 : Int32)))) .unset 442 [])) (fun _ k => XS.icmpYes X1081.here hx rfl (pc0 := 426) (pc' := 442) rfl (hb hby at_426) rfl (tlt hf426_1082).1 (by decide) (by decide) k) ?_
  refine own_stepW (f' := (own_G m i0 i1 i2 i3 i4 vb nn vk b5 b8 b11 ru rv rx b35 b37 (.val (.ref z0_1046)) (.val (.int (nn + (0 : Int32)))) .unset 444 [(.int nn)])) (fun _ k => XS.iload X1081.here hx rfl (hb hby at_442) rfl k) ?_
  refine own_stepW (f' := (own_G m i0 i1 i2 i3 i4 vb nn vk b5 b8 b11 ru rv rx b35 b37 (.val (.ref z0_1046)) (.val (.int (nn + (0 : Int32)))) .unset 445 [(.int (3 : Int32)), (.int nn)])) (fun _ k => XS.iconst X1081.here hx rfl (hb hby at_444) k) ?_
  have hf445_1083 : nn < (3 : Int32) := (by rw [hn] <;> decide)
  refine own_stepW (f' := (own_G m i0 i1 i2 i3 i4 vb nn vk b5 b8 b11 ru rv rx b35 b37 (.val (.ref z0_1046)) (.val (.int (nn + (0 : Int32)))) .unset 461 [])) (fun _ k => XS.icmpYes X1081.here hx rfl (pc0 := 445) (pc' := 461) rfl (hb hby at_445) rfl (tlt hf445_1083).1 (by decide) (by decide) k) ?_
  refine own_stepW (f' := (own_G m i0 i1 i2 i3 i4 vb nn vk b5 b8 b11 ru rv rx b35 b37 (.val (.ref z0_1046)) (.val (.int (nn + (0 : Int32)))) .unset 463 [(.int vk)])) (fun _ k => XS.iload X1081.here hx rfl (hb hby at_461) rfl k) ?_
  have hf463_1084 : vk = (0 : Int32) := (by rw [hbk] <;> decide)
  refine own_stepW (f' := (own_G m i0 i1 i2 i3 i4 vb nn vk b5 b8 b11 ru rv rx b35 b37 (.val (.ref z0_1046)) (.val (.int (nn + (0 : Int32)))) .unset 507 [])) (fun _ k => XS.ifYes X1081.here hx rfl (pc0 := 463) (pc' := 507) rfl (hb hby at_463) rfl ((if0 _ _).trans (teq hf463_1084).1) (by decide) (by decide) k) ?_
  refine own_stepW (f' := (own_G m i0 i1 i2 i3 i4 vb nn vk b5 b8 b11 ru rv rx b35 b37 (.val (.ref z0_1046)) (.val (.int (nn + (0 : Int32)))) .unset 508 [(.int (1 : Int32))])) (fun _ k => XS.iconst X1081.here hx rfl (hb hby at_507) k) ?_
  refine own_stepW (f' := (own_G m i0 i1 i2 i3 i4 vb nn vk b5 b8 b11 ru rv rx b35 b37 (.val (.ref z0_1046)) (.val (.int (nn + (0 : Int32)))) .unset 512 [(.int (1 : Int32))])) (fun _ k => XS.goto X1081.here hx rfl (pc0 := 508) (pc' := 512) rfl (hb hby at_508) (by decide) (by decide) k) ?_
  refine own_stepW (f' := (own_G m i0 i1 i2 i3 i4 vb nn vk b5 b8 b11 ru rv rx b35 b37 (.val (.ref z0_1046)) (.val (.int (nn + (0 : Int32)))) (.val (.int (1 : Int32))) 514 [])) (fun _ k => XS.istore X1081.here hx rfl (hb hby at_512) rfl (l' := #[.val (.int i0), .val (.int i1), .val (.int i2), .val (.int i3), .val (.int i4), .val (.int vb), .val (.int nn), .val (.int vk), .val (.ref b5), .val (.ref b8), .val (.ref b11), .val ru, .val rv, .val rx, .val (.ref b35), .val (.ref b37), .val (.ref z0_1046), .val (.int (nn + (0 : Int32))), .val (.int (1 : Int32))]) rfl k) ?_
  refine own_stepW (f' := (own_G m i0 i1 i2 i3 i4 vb nn vk b5 b8 b11 ru rv rx b35 b37 (.val (.ref z0_1046)) (.val (.int (nn + (0 : Int32)))) (.val (.int (1 : Int32))) 516 [(.int (1 : Int32))])) (fun _ k => XS.iload X1081.here hx rfl (hb hby at_514) rfl k) ?_
  refine own_outW (v := some (.int (1 : Int32))) X1081 hS39 (by rw [e1081]; exact Ws346_1074) hlk (fun h => by rw [hret] at h; cases h) (fun fs hr => retN X1081 hx (t := .boolean) hret (by simp) (hb hby at_516) hr) (by decide) (by decide) ?_
  exact ⟨rfl, N346_1074⟩
set_option maxRecDepth 65536 in
set_option maxHeartbeats 40000000 in
theorem own_J346_1085 (l : Launch) (Z : State) (a0 : Array Value) (hw : own_HW a0 Z) (h0 : Heap) (n0 : Nat) (p : Program) (e : Env) (s : State) (m : MethodId) (below : List Frame) (meth : Method) (c : Code) (hx : p.tables.exec = Jvm.exec) (hby : c.code = code) (hlk : meth.locks = false) (hml : c.maxLocals = 19) (hown0 : s.vm.findClass "com/example/valbonne/valbonne/codec/AttributeCodingsAddPinLaw" = some m.cls) (hZ0 : Z.Warmed39 s.vm) (hret : meth.sig.returnType = some .boolean) (i0 : Int32) (i1 : Int32) (i2 : Int32) (i3 : Int32) (i4 : Int32) (cz : Int32) (vb : Int32) (nn : Int32) (vk : Int32) (b5 : Addr) (b8 : Addr) (b11 : Addr) (ru : Value) (rv : Value) (rx : Value) (b35 : Addr) (b37 : Addr) (T39 : State) (z0_1046 : Addr) (y1_1046 : Addr) (y2_1046 : Addr) (ky2_1046 : ClassId) (y3_1046 : Addr) (ky3_1046 : ClassId) (sj289_1061 : own_St) (hr_ru : ru.isRef = true) (hr_rv : rv.isRef = true) (hr_rx : rx.isRef = true) (hZ39 : Z.Warmed39 (s.setVm T39.vm).vm) (hown39 : (s.setVm T39.vm).vm.findClass "com/example/valbonne/valbonne/codec/AttributeCodingsAddPinLaw" = some m.cls) (hS39 : s.Since T39.vm T39.heap.size) (hbeg : vb = (1 : Int32)) (hn : nn = (2 : Int32)) (hbk : vk = (0 : Int32)) (hk : sj289_1061.2.1 = 2) (pz0 : sj289_1061.2.2.1.getD 0 .null = .ref b5) (qz0 : sj289_1061.2.2.2.getD 0 .null = ru) (pz1 : sj289_1061.2.2.1.getD 1 .null = .ref b8) (qz1 : sj289_1061.2.2.2.getD 1 .null = rv) : ∀ (T346_1085 : State) (hj346_1085 : Heap) (Lj346_1085 : List Loc) , (Stand p l e room_1 (s.setVm T39.vm) m #[(.int i0), (.int i1), (.int i2), (.int i3), (.int i4)] below meth c T346_1085 Lj346_1085 34 262) → (T346_1085.heap = hj346_1085) → (Fr n0 Lj346_1085) → (n0 ≤ hj346_1085.size) → (T39.heap.size ≤ hj346_1085.size) → (own_Opt Z hj346_1085 ru "java/lang/String") → (own_Opt Z hj346_1085 rv "java/lang/String") → (own_Opt Z hj346_1085 rx "java/lang/String") → (Exa Z hj346_1085 z0_1046 own_CO) → (Arv Z hj346_1085 y2_1046 ky2_1046 (.object own_NM) (16 : Int32) sj289_1061.2.2.1 .null) → (Arv Z hj346_1085 y3_1046 ky3_1046 (.object "java/lang/String") (16 : Int32) sj289_1061.2.2.2 .null) → (Fld Z hj346_1085 z0_1046 own_CO "declared" "Lcom/example/valbonne/valbonne/codec/DeclaredAttributes;" .null) → (Fld Z hj346_1085 z0_1046 own_CO "loose" "Z" (.int (1 : Int32))) → (Fld Z hj346_1085 z0_1046 own_CO "page" "I" (.int (0 : Int32))) → (Fld Z hj346_1085 z0_1046 own_CO "endPage" "I" (.int (0 : Int32))) → (Fld Z hj346_1085 z0_1046 own_CO "bytes" "[B" (.ref y1_1046)) → (Fld Z hj346_1085 z0_1046 own_CO "length" "I" (.int (0 : Int32))) → (Fld Z hj346_1085 z0_1046 own_CO "names" "[Lcom/example/valbonne/valbonne/codec/Name;" (.ref y2_1046)) → (Fld Z hj346_1085 z0_1046 own_CO "values" "[Ljava/lang/String;" (.ref y3_1046)) → (Fld Z hj346_1085 z0_1046 own_CO "size" "I" (.int (Int32.ofNat sj289_1061.2.1))) → (Fld Z hj346_1085 z0_1046 own_CO "known" "Z" (.int (1 : Int32))) → own_GoesW p e below s (Q0 Z i0 i1 i2 i3 i4 cz h0 n0) room_1.cells room_1.slots T346_1085 (own_G m i0 i1 i2 i3 i4 vb nn vk b5 b8 b11 ru rv rx b35 b37 (.val (.ref z0_1046)) .unset .unset 346 []) := by
  have hown := hown0
  have hZ := hZ0
  intro T346_1085 hj346_1085 Lj346_1085  X346_1085 e346_1085 N346_1085 Zj346_1085 Ws346_1085 Fj346_1085_0 Fj346_1085_1 Fj346_1085_2 Fj346_1085_3 Fj346_1085_6 Fj346_1085_7 Fj346_1085_8 Fj346_1085_9 Fj346_1085_10 Fj346_1085_11 Fj346_1085_12 Fj346_1085_13 Fj346_1085_14 Fj346_1085_15 Fj346_1085_16 Fj346_1085_17
  have hr_ru : ru.isRef = true := Fj346_1085_0.isR
  have hr_rv : rv.isRef = true := Fj346_1085_1.isR
  have hr_rx : rx.isRef = true := Fj346_1085_2.isR
  refine own_stepW (f' := (own_G m i0 i1 i2 i3 i4 vb nn vk b5 b8 b11 ru rv rx b35 b37 (.val (.ref z0_1046)) .unset .unset 348 [(.int nn)])) (fun _ k => XS.iload X346_1085.here hx rfl (hb hby at_346) rfl k) ?_
  refine own_stepW (f' := (own_G m i0 i1 i2 i3 i4 vb nn vk b5 b8 b11 ru rv rx b35 b37 (.val (.ref z0_1046)) .unset .unset 350 [(.int vk), (.int nn)])) (fun _ k => XS.iload X346_1085.here hx rfl (hb hby at_348) rfl k) ?_
  have hf350_1086 : vk = (0 : Int32) := (by rw [hbk] <;> decide)
  refine own_stepW (f' := (own_G m i0 i1 i2 i3 i4 vb nn vk b5 b8 b11 ru rv rx b35 b37 (.val (.ref z0_1046)) .unset .unset 358 [(.int nn)])) (fun _ k => XS.ifYes X346_1085.here hx rfl (pc0 := 350) (pc' := 358) rfl (hb hby at_350) rfl ((if0 _ _).trans (teq hf350_1086).1) (by decide) (by decide) k) ?_
  refine own_stepW (f' := (own_G m i0 i1 i2 i3 i4 vb nn vk b5 b8 b11 ru rv rx b35 b37 (.val (.ref z0_1046)) .unset .unset 359 [(.int (0 : Int32)), (.int nn)])) (fun _ k => XS.iconst X346_1085.here hx rfl (hb hby at_358) k) ?_
  refine own_stepW (f' := (own_G m i0 i1 i2 i3 i4 vb nn vk b5 b8 b11 ru rv rx b35 b37 (.val (.ref z0_1046)) .unset .unset 360 [(.int (nn + (0 : Int32)))])) (fun _ k => XS.iadd X346_1085.here hx rfl (hb hby at_359) rfl k) ?_
  refine own_stepW (f' := (own_G m i0 i1 i2 i3 i4 vb nn vk b5 b8 b11 ru rv rx b35 b37 (.val (.ref z0_1046)) (.val (.int (nn + (0 : Int32)))) .unset 362 [])) (fun _ k => XS.istore X346_1085.here hx rfl (hb hby at_360) rfl (l' := #[.val (.int i0), .val (.int i1), .val (.int i2), .val (.int i3), .val (.int i4), .val (.int vb), .val (.int nn), .val (.int vk), .val (.ref b5), .val (.ref b8), .val (.ref b11), .val ru, .val rv, .val rx, .val (.ref b35), .val (.ref b37), .val (.ref z0_1046), .val (.int (nn + (0 : Int32))), .unset]) rfl k) ?_
  refine own_stepW (f' := (own_G m i0 i1 i2 i3 i4 vb nn vk b5 b8 b11 ru rv rx b35 b37 (.val (.ref z0_1046)) (.val (.int (nn + (0 : Int32)))) .unset 364 [(.int vb)])) (fun _ k => XS.iload X346_1085.here hx rfl (hb hby at_362) rfl k) ?_
  have hf364_1087 : ¬ (vb = (0 : Int32)) := (by rw [hbeg] <;> decide)
  refine own_stepW (f' := (own_G m i0 i1 i2 i3 i4 vb nn vk b5 b8 b11 ru rv rx b35 b37 (.val (.ref z0_1046)) (.val (.int (nn + (0 : Int32)))) .unset 367 [])) (fun _ k => XS.ifNo X346_1085.here hx rfl (hb hby at_364) rfl ((if0 _ _).trans (feq hf364_1087).1) k) ?_
  refine own_stepW (f' := (own_G m i0 i1 i2 i3 i4 vb nn vk b5 b8 b11 ru rv rx b35 b37 (.val (.ref z0_1046)) (.val (.int (nn + (0 : Int32)))) .unset 369 [(.int (nn + (0 : Int32)))])) (fun _ k => XS.iload X346_1085.here hx rfl (hb hby at_367) rfl k) ?_
  refine own_stepW (f' := (own_G m i0 i1 i2 i3 i4 vb nn vk b5 b8 b11 ru rv rx b35 b37 (.val (.ref z0_1046)) (.val (.int (nn + (0 : Int32)))) .unset 371 [(.int (16 : Int32)), (.int (nn + (0 : Int32)))])) (fun _ k => XS.bipush X346_1085.here hx rfl (hb hby at_369) k) ?_
  have hf371_1088 : ¬ ((16 : Int32) < (nn + (0 : Int32))) := (by rw [hn] <;> decide)
  refine own_stepW (f' := (own_G m i0 i1 i2 i3 i4 vb nn vk b5 b8 b11 ru rv rx b35 b37 (.val (.ref z0_1046)) (.val (.int (nn + (0 : Int32)))) .unset 389 [])) (fun _ k => XS.icmpYes X346_1085.here hx rfl (pc0 := 371) (pc' := 389) rfl (hb hby at_371) rfl (flt hf371_1088).2.2.2 (by decide) (by decide) k) ?_
  refine own_stepW (f' := (own_G m i0 i1 i2 i3 i4 vb nn vk b5 b8 b11 ru rv rx b35 b37 (.val (.ref z0_1046)) (.val (.int (nn + (0 : Int32)))) .unset 391 [(.ref z0_1046)])) (fun _ k => XS.aload X346_1085.here hx rfl (hb hby at_389) rfl rfl k) ?_
  refine own_stepW (f' := (own_G m i0 i1 i2 i3 i4 vb nn vk b5 b8 b11 ru rv rx b35 b37 (.val (.ref z0_1046)) (.val (.int (nn + (0 : Int32)))) .unset 394 [])) (fun _ k => XS.ifnullNo X346_1085.here hx rfl (hb hby at_391) rfl k) ?_
  refine own_stepW (f' := (own_G m i0 i1 i2 i3 i4 vb nn vk b5 b8 b11 ru rv rx b35 b37 (.val (.ref z0_1046)) (.val (.int (nn + (0 : Int32)))) .unset 396 [(.ref z0_1046)])) (fun _ k => XS.aload X346_1085.here hx rfl (hb hby at_394) rfl rfl k) ?_
  have Zq1089 : n0 ≤ hj346_1085.size := Zj346_1085
  obtain ⟨cq1089, kq1089, q1089a, q1089b, q1089c⟩ := isOf hZ39 e346_1085 Fj346_1085_3
  obtain ⟨_, _, ⟨T1089, L1089, k1089, n1089⟩, -, X1089, ⟨Lc1089, hQ1089, l1089, y1089, z1089⟩, st1089⟩ := X346_1085.virtualBack hx (y := (⟨own_CO, "size", "()I"⟩ : MethodName)) (z := (⟨own_CO, "size", "()I"⟩ : MethodName)) hown39 (mvT hZ39 (own_w222 hw)) (mvT hZ39 (own_w223 hw)) (notFace_of_selects (args := #[]) (mvT hZ39 (own_w225 hw))) (mvT hZ39 (own_w225 hw)) (mvT hZ39 (own_w224 hw)) (by decide) (backOf (W := 0) (rm28 l Z a0 hw [] z0_1046 (Int32.ofNat sj289_1061.2.1) hj346_1085 n0 Zq1089 Fj346_1085_16) hZ39 (own_w226 hw) (own_w148 hw) (by decide) (by decide)) q1089a q1089c (g := (own_G m i0 i1 i2 i3 i4 vb nn vk b5 b8 b11 ru rv rx b35 b37 (.val (.ref z0_1046)) (.val (.int (nn + (0 : Int32)))) .unset 396 [(.ref z0_1046)])) rfl (by rw [hml]; rfl) (Steps.refl _) (argsL := []) (rest := []) (lenOf pd_8 rfl) rfl (by show 2 * 0 + _ ≤ _; exact Nat.le_of_eq rfl) (hb hby at_396) (fun _ _ => ⟨rfl, e346_1085, (by decide : 34 + 0 ≤ _), (by decide : 262 + 0 ≤ _)⟩)
  dsimp only [Pt.U, Pt.locs, Pt.cells, Pt.slots] at X1089 l1089 y1089 z1089 st1089 hQ1089
  subst l1089 y1089 z1089
  obtain ⟨rfl, rfl, e1089⟩ := hQ1089
  try rw [List.append_nil] at X1089
  refine own_jumpW (f' := (own_G m i0 i1 i2 i3 i4 vb nn vk b5 b8 b11 ru rv rx b35 b37 (.val (.ref z0_1046)) (.val (.int (nn + (0 : Int32)))) .unset 399 [(.int (Int32.ofNat sj289_1061.2.1))])) st1089 ?_
  refine own_stepW (f' := (own_G m i0 i1 i2 i3 i4 vb nn vk b5 b8 b11 ru rv rx b35 b37 (.val (.ref z0_1046)) (.val (.int (nn + (0 : Int32)))) .unset 401 [(.int (nn + (0 : Int32))), (.int (Int32.ofNat sj289_1061.2.1))])) (fun _ k => XS.iload X1089.here hx rfl (hb hby at_399) rfl k) ?_
  have hf401_1090 : (Int32.ofNat sj289_1061.2.1) = (nn + (0 : Int32)) := (by rw [hk, hn] <;> decide)
  refine own_stepW (f' := (own_G m i0 i1 i2 i3 i4 vb nn vk b5 b8 b11 ru rv rx b35 b37 (.val (.ref z0_1046)) (.val (.int (nn + (0 : Int32)))) .unset 404 [])) (fun _ k => XS.icmpNo X1089.here hx rfl (hb hby at_401) rfl (teq hf401_1090).2 k) ?_
  refine own_stepW (f' := (own_G m i0 i1 i2 i3 i4 vb nn vk b5 b8 b11 ru rv rx b35 b37 (.val (.ref z0_1046)) (.val (.int (nn + (0 : Int32)))) .unset 406 [(.int nn)])) (fun _ k => XS.iload X1089.here hx rfl (hb hby at_404) rfl k) ?_
  refine own_stepW (f' := (own_G m i0 i1 i2 i3 i4 vb nn vk b5 b8 b11 ru rv rx b35 b37 (.val (.ref z0_1046)) (.val (.int (nn + (0 : Int32)))) .unset 407 [(.int (1 : Int32)), (.int nn)])) (fun _ k => XS.iconst X1089.here hx rfl (hb hby at_406) k) ?_
  have hf407_1091 : ¬ (nn < (1 : Int32)) := (by rw [hn] <;> decide)
  refine own_stepW (f' := (own_G m i0 i1 i2 i3 i4 vb nn vk b5 b8 b11 ru rv rx b35 b37 (.val (.ref z0_1046)) (.val (.int (nn + (0 : Int32)))) .unset 410 [])) (fun _ k => XS.icmpNo X1089.here hx rfl (hb hby at_407) rfl (flt hf407_1091).1 k) ?_
  refine own_stepW (f' := (own_G m i0 i1 i2 i3 i4 vb nn vk b5 b8 b11 ru rv rx b35 b37 (.val (.ref z0_1046)) (.val (.int (nn + (0 : Int32)))) .unset 412 [(.ref z0_1046)])) (fun _ k => XS.aload X1089.here hx rfl (hb hby at_410) rfl rfl k) ?_
  refine own_stepW (f' := (own_G m i0 i1 i2 i3 i4 vb nn vk b5 b8 b11 ru rv rx b35 b37 (.val (.ref z0_1046)) (.val (.int (nn + (0 : Int32)))) .unset 413 [(.int (0 : Int32)), (.ref z0_1046)])) (fun _ k => XS.iconst X1089.here hx rfl (hb hby at_412) k) ?_
  refine own_stepW (f' := (own_G m i0 i1 i2 i3 i4 vb nn vk b5 b8 b11 ru rv rx b35 b37 (.val (.ref z0_1046)) (.val (.int (nn + (0 : Int32)))) .unset 415 [(.ref b5), (.int (0 : Int32)), (.ref z0_1046)])) (fun _ k => XS.aload X1089.here hx rfl (hb hby at_413) rfl rfl k) ?_
  refine own_stepW (f' := (own_G m i0 i1 i2 i3 i4 vb nn vk b5 b8 b11 ru rv rx b35 b37 (.val (.ref z0_1046)) (.val (.int (nn + (0 : Int32)))) .unset 417 [ru, (.ref b5), (.int (0 : Int32)), (.ref z0_1046)])) (fun _ k => XS.aload X1089.here hx rfl (hb hby at_415) rfl hr_ru k) ?_
  have hp1092_hj : ¬ (0 : Int32) < (0 : Int32) ∧ (0 : Int32) < (16 : Int32) := ⟨by decide, by decide⟩
  have hp1092_hq1 : sj289_1061.2.2.1.getD (0 : Int32).toNatClampNeg .null = .ref b5 := pz0
  have hp1092_hq2 : sj289_1061.2.2.2.getD (0 : Int32).toNatClampNeg .null = ru := qz0
  have Zq1092 : n0 ≤ hj346_1085.size := Zj346_1085
  obtain ⟨_, _, ⟨T1092, L1092, k1092, n1092⟩, -, X1092, ⟨Lc1092, hQ1092, l1092, y1092, z1092⟩, st1092⟩ := Jvm.LawKit.callS X1089 hx (y := (⟨"com/example/valbonne/valbonne/codec/AttributeCodingsAddPinLaw", "at", "(Lcom/example/valbonne/valbonne/codec/AttributeCodings$Coding;ILcom/example/valbonne/valbonne/codec/Name;Ljava/lang/String;)Z"⟩ : MethodName)) hown39 (mvT hZ39 (own_w227 hw)) (mvT hZ39 (own_w228 hw)) (mvT hZ39 (own_w229 hw)) (mvT hZ39 (own_w230 hw)) (by decide) (backOf (W := 0) (rm29 l Z a0 hw [] z0_1046 (0 : Int32) b5 ru y2_1046 ky2_1046 sj289_1061.2.2.1 y3_1046 ky3_1046 sj289_1061.2.2.2 hj346_1085 n0 Zq1092 Fj346_1085_0 Fj346_1085_3 Fj346_1085_14 Fj346_1085_6 Fj346_1085_15 Fj346_1085_7 hp1092_hj hp1092_hq1 hp1092_hq2) hZ39 (own_w230 hw) (own_w229 hw) (by decide) (by decide)) (g := (own_G m i0 i1 i2 i3 i4 vb nn vk b5 b8 b11 ru rv rx b35 b37 (.val (.ref z0_1046)) (.val (.int (nn + (0 : Int32)))) .unset 417 [ru, (.ref b5), (.int (0 : Int32)), (.ref z0_1046)])) rfl (by rw [hml]; rfl) (argsL := [(.ref z0_1046), (.int (0 : Int32)), (.ref b5), ru]) (rest := []) (lenOf pd_26 rfl) rfl (by show 2 * 0 + _ ≤ _; exact Nat.le_of_eq rfl) (hb hby at_417) (fun _ _ => ⟨rfl, e1089, (by decide : 34 + 0 ≤ _), (by decide : 262 + 0 ≤ _)⟩)
  dsimp only [Pt.U, Pt.locs, Pt.cells, Pt.slots] at X1092 l1092 y1092 z1092 st1092 hQ1092
  subst l1092 y1092 z1092
  obtain ⟨rfl, rfl, e1092⟩ := hQ1092
  try rw [List.append_nil] at X1092
  refine own_stepW (f' := (own_G m i0 i1 i2 i3 i4 vb nn vk b5 b8 b11 ru rv rx b35 b37 (.val (.ref z0_1046)) (.val (.int (nn + (0 : Int32)))) .unset 420 [(.int (1 : Int32))])) st1092 ?_
  refine own_stepW (f' := (own_G m i0 i1 i2 i3 i4 vb nn vk b5 b8 b11 ru rv rx b35 b37 (.val (.ref z0_1046)) (.val (.int (nn + (0 : Int32)))) .unset 423 [])) (fun _ k => XS.ifNo X1092.here hx rfl (hb hby at_420) rfl ((if0 _ _).trans (feq (by decide : ¬ ((1 : Int32) = (0 : Int32)))).1) k) ?_
  refine own_stepW (f' := (own_G m i0 i1 i2 i3 i4 vb nn vk b5 b8 b11 ru rv rx b35 b37 (.val (.ref z0_1046)) (.val (.int (nn + (0 : Int32)))) .unset 425 [(.int nn)])) (fun _ k => XS.iload X1092.here hx rfl (hb hby at_423) rfl k) ?_
  refine own_stepW (f' := (own_G m i0 i1 i2 i3 i4 vb nn vk b5 b8 b11 ru rv rx b35 b37 (.val (.ref z0_1046)) (.val (.int (nn + (0 : Int32)))) .unset 426 [(.int (2 : Int32)), (.int nn)])) (fun _ k => XS.iconst X1092.here hx rfl (hb hby at_425) k) ?_
  have hf426_1093 : ¬ (nn < (2 : Int32)) := (by rw [hn] <;> decide)
  refine own_stepW (f' := (own_G m i0 i1 i2 i3 i4 vb nn vk b5 b8 b11 ru rv rx b35 b37 (.val (.ref z0_1046)) (.val (.int (nn + (0 : Int32)))) .unset 429 [])) (fun _ k => XS.icmpNo X1092.here hx rfl (hb hby at_426) rfl (flt hf426_1093).1 k) ?_
  refine own_stepW (f' := (own_G m i0 i1 i2 i3 i4 vb nn vk b5 b8 b11 ru rv rx b35 b37 (.val (.ref z0_1046)) (.val (.int (nn + (0 : Int32)))) .unset 431 [(.ref z0_1046)])) (fun _ k => XS.aload X1092.here hx rfl (hb hby at_429) rfl rfl k) ?_
  refine own_stepW (f' := (own_G m i0 i1 i2 i3 i4 vb nn vk b5 b8 b11 ru rv rx b35 b37 (.val (.ref z0_1046)) (.val (.int (nn + (0 : Int32)))) .unset 432 [(.int (1 : Int32)), (.ref z0_1046)])) (fun _ k => XS.iconst X1092.here hx rfl (hb hby at_431) k) ?_
  refine own_stepW (f' := (own_G m i0 i1 i2 i3 i4 vb nn vk b5 b8 b11 ru rv rx b35 b37 (.val (.ref z0_1046)) (.val (.int (nn + (0 : Int32)))) .unset 434 [(.ref b8), (.int (1 : Int32)), (.ref z0_1046)])) (fun _ k => XS.aload X1092.here hx rfl (hb hby at_432) rfl rfl k) ?_
  refine own_stepW (f' := (own_G m i0 i1 i2 i3 i4 vb nn vk b5 b8 b11 ru rv rx b35 b37 (.val (.ref z0_1046)) (.val (.int (nn + (0 : Int32)))) .unset 436 [rv, (.ref b8), (.int (1 : Int32)), (.ref z0_1046)])) (fun _ k => XS.aload X1092.here hx rfl (hb hby at_434) rfl hr_rv k) ?_
  have hp1094_hj : ¬ (1 : Int32) < (0 : Int32) ∧ (1 : Int32) < (16 : Int32) := ⟨by decide, by decide⟩
  have hp1094_hq1 : sj289_1061.2.2.1.getD (1 : Int32).toNatClampNeg .null = .ref b8 := pz1
  have hp1094_hq2 : sj289_1061.2.2.2.getD (1 : Int32).toNatClampNeg .null = rv := qz1
  have Zq1094 : n0 ≤ hj346_1085.size := Zj346_1085
  obtain ⟨_, _, ⟨T1094, L1094, k1094, n1094⟩, -, X1094, ⟨Lc1094, hQ1094, l1094, y1094, z1094⟩, st1094⟩ := Jvm.LawKit.callS X1092 hx (y := (⟨"com/example/valbonne/valbonne/codec/AttributeCodingsAddPinLaw", "at", "(Lcom/example/valbonne/valbonne/codec/AttributeCodings$Coding;ILcom/example/valbonne/valbonne/codec/Name;Ljava/lang/String;)Z"⟩ : MethodName)) hown39 (mvT hZ39 (own_w227 hw)) (mvT hZ39 (own_w228 hw)) (mvT hZ39 (own_w229 hw)) (mvT hZ39 (own_w230 hw)) (by decide) (backOf (W := 0) (rm29 l Z a0 hw [] z0_1046 (1 : Int32) b8 rv y2_1046 ky2_1046 sj289_1061.2.2.1 y3_1046 ky3_1046 sj289_1061.2.2.2 hj346_1085 n0 Zq1094 Fj346_1085_1 Fj346_1085_3 Fj346_1085_14 Fj346_1085_6 Fj346_1085_15 Fj346_1085_7 hp1094_hj hp1094_hq1 hp1094_hq2) hZ39 (own_w230 hw) (own_w229 hw) (by decide) (by decide)) (g := (own_G m i0 i1 i2 i3 i4 vb nn vk b5 b8 b11 ru rv rx b35 b37 (.val (.ref z0_1046)) (.val (.int (nn + (0 : Int32)))) .unset 436 [rv, (.ref b8), (.int (1 : Int32)), (.ref z0_1046)])) rfl (by rw [hml]; rfl) (argsL := [(.ref z0_1046), (.int (1 : Int32)), (.ref b8), rv]) (rest := []) (lenOf pd_26 rfl) rfl (by show 2 * 0 + _ ≤ _; exact Nat.le_of_eq rfl) (hb hby at_436) (fun _ _ => ⟨rfl, e1092, (by decide : 34 + 0 ≤ _), (by decide : 262 + 0 ≤ _)⟩)
  dsimp only [Pt.U, Pt.locs, Pt.cells, Pt.slots] at X1094 l1094 y1094 z1094 st1094 hQ1094
  subst l1094 y1094 z1094
  obtain ⟨rfl, rfl, e1094⟩ := hQ1094
  try rw [List.append_nil] at X1094
  refine own_stepW (f' := (own_G m i0 i1 i2 i3 i4 vb nn vk b5 b8 b11 ru rv rx b35 b37 (.val (.ref z0_1046)) (.val (.int (nn + (0 : Int32)))) .unset 439 [(.int (1 : Int32))])) st1094 ?_
  refine own_stepW (f' := (own_G m i0 i1 i2 i3 i4 vb nn vk b5 b8 b11 ru rv rx b35 b37 (.val (.ref z0_1046)) (.val (.int (nn + (0 : Int32)))) .unset 442 [])) (fun _ k => XS.ifNo X1094.here hx rfl (hb hby at_439) rfl ((if0 _ _).trans (feq (by decide : ¬ ((1 : Int32) = (0 : Int32)))).1) k) ?_
  refine own_stepW (f' := (own_G m i0 i1 i2 i3 i4 vb nn vk b5 b8 b11 ru rv rx b35 b37 (.val (.ref z0_1046)) (.val (.int (nn + (0 : Int32)))) .unset 444 [(.int nn)])) (fun _ k => XS.iload X1094.here hx rfl (hb hby at_442) rfl k) ?_
  refine own_stepW (f' := (own_G m i0 i1 i2 i3 i4 vb nn vk b5 b8 b11 ru rv rx b35 b37 (.val (.ref z0_1046)) (.val (.int (nn + (0 : Int32)))) .unset 445 [(.int (3 : Int32)), (.int nn)])) (fun _ k => XS.iconst X1094.here hx rfl (hb hby at_444) k) ?_
  have hf445_1095 : nn < (3 : Int32) := (by rw [hn] <;> decide)
  refine own_stepW (f' := (own_G m i0 i1 i2 i3 i4 vb nn vk b5 b8 b11 ru rv rx b35 b37 (.val (.ref z0_1046)) (.val (.int (nn + (0 : Int32)))) .unset 461 [])) (fun _ k => XS.icmpYes X1094.here hx rfl (pc0 := 445) (pc' := 461) rfl (hb hby at_445) rfl (tlt hf445_1095).1 (by decide) (by decide) k) ?_
  refine own_stepW (f' := (own_G m i0 i1 i2 i3 i4 vb nn vk b5 b8 b11 ru rv rx b35 b37 (.val (.ref z0_1046)) (.val (.int (nn + (0 : Int32)))) .unset 463 [(.int vk)])) (fun _ k => XS.iload X1094.here hx rfl (hb hby at_461) rfl k) ?_
  have hf463_1096 : vk = (0 : Int32) := (by rw [hbk] <;> decide)
  refine own_stepW (f' := (own_G m i0 i1 i2 i3 i4 vb nn vk b5 b8 b11 ru rv rx b35 b37 (.val (.ref z0_1046)) (.val (.int (nn + (0 : Int32)))) .unset 507 [])) (fun _ k => XS.ifYes X1094.here hx rfl (pc0 := 463) (pc' := 507) rfl (hb hby at_463) rfl ((if0 _ _).trans (teq hf463_1096).1) (by decide) (by decide) k) ?_
  refine own_stepW (f' := (own_G m i0 i1 i2 i3 i4 vb nn vk b5 b8 b11 ru rv rx b35 b37 (.val (.ref z0_1046)) (.val (.int (nn + (0 : Int32)))) .unset 508 [(.int (1 : Int32))])) (fun _ k => XS.iconst X1094.here hx rfl (hb hby at_507) k) ?_
  refine own_stepW (f' := (own_G m i0 i1 i2 i3 i4 vb nn vk b5 b8 b11 ru rv rx b35 b37 (.val (.ref z0_1046)) (.val (.int (nn + (0 : Int32)))) .unset 512 [(.int (1 : Int32))])) (fun _ k => XS.goto X1094.here hx rfl (pc0 := 508) (pc' := 512) rfl (hb hby at_508) (by decide) (by decide) k) ?_
  refine own_stepW (f' := (own_G m i0 i1 i2 i3 i4 vb nn vk b5 b8 b11 ru rv rx b35 b37 (.val (.ref z0_1046)) (.val (.int (nn + (0 : Int32)))) (.val (.int (1 : Int32))) 514 [])) (fun _ k => XS.istore X1094.here hx rfl (hb hby at_512) rfl (l' := #[.val (.int i0), .val (.int i1), .val (.int i2), .val (.int i3), .val (.int i4), .val (.int vb), .val (.int nn), .val (.int vk), .val (.ref b5), .val (.ref b8), .val (.ref b11), .val ru, .val rv, .val rx, .val (.ref b35), .val (.ref b37), .val (.ref z0_1046), .val (.int (nn + (0 : Int32))), .val (.int (1 : Int32))]) rfl k) ?_
  refine own_stepW (f' := (own_G m i0 i1 i2 i3 i4 vb nn vk b5 b8 b11 ru rv rx b35 b37 (.val (.ref z0_1046)) (.val (.int (nn + (0 : Int32)))) (.val (.int (1 : Int32))) 516 [(.int (1 : Int32))])) (fun _ k => XS.iload X1094.here hx rfl (hb hby at_514) rfl k) ?_
  refine own_outW (v := some (.int (1 : Int32))) X1094 hS39 (by rw [e1094]; exact Ws346_1085) hlk (fun h => by rw [hret] at h; cases h) (fun fs hr => retN X1094 hx (t := .boolean) hret (by simp) (hb hby at_516) hr) (by decide) (by decide) ?_
  exact ⟨rfl, N346_1085⟩
set_option maxRecDepth 65536 in
set_option maxHeartbeats 40000000 in
theorem own_J346_1097 (l : Launch) (Z : State) (a0 : Array Value) (hw : own_HW a0 Z) (h0 : Heap) (n0 : Nat) (p : Program) (e : Env) (s : State) (m : MethodId) (below : List Frame) (meth : Method) (c : Code) (hx : p.tables.exec = Jvm.exec) (hby : c.code = code) (hlk : meth.locks = false) (hml : c.maxLocals = 19) (hown0 : s.vm.findClass "com/example/valbonne/valbonne/codec/AttributeCodingsAddPinLaw" = some m.cls) (hZ0 : Z.Warmed39 s.vm) (hret : meth.sig.returnType = some .boolean) (i0 : Int32) (i1 : Int32) (i2 : Int32) (i3 : Int32) (i4 : Int32) (cz : Int32) (vb : Int32) (nn : Int32) (vk : Int32) (b5 : Addr) (b8 : Addr) (b11 : Addr) (ru : Value) (rv : Value) (rx : Value) (b35 : Addr) (b37 : Addr) (T39 : State) (z0_1046 : Addr) (y1_1046 : Addr) (y2_1046 : Addr) (ky2_1046 : ClassId) (y3_1046 : Addr) (ky3_1046 : ClassId) (sj289_1061 : own_St) (hr_ru : ru.isRef = true) (hr_rv : rv.isRef = true) (hr_rx : rx.isRef = true) (hZ39 : Z.Warmed39 (s.setVm T39.vm).vm) (hown39 : (s.setVm T39.vm).vm.findClass "com/example/valbonne/valbonne/codec/AttributeCodingsAddPinLaw" = some m.cls) (hS39 : s.Since T39.vm T39.heap.size) (hbeg : vb = (1 : Int32)) (hn : nn = (3 : Int32)) (hbk : vk = (0 : Int32)) (hk : sj289_1061.2.1 = 3) (pz0 : sj289_1061.2.2.1.getD 0 .null = .ref b5) (qz0 : sj289_1061.2.2.2.getD 0 .null = ru) (pz1 : sj289_1061.2.2.1.getD 1 .null = .ref b8) (qz1 : sj289_1061.2.2.2.getD 1 .null = rv) (pz2 : sj289_1061.2.2.1.getD 2 .null = .ref b11) (qz2 : sj289_1061.2.2.2.getD 2 .null = rx) : ∀ (T346_1097 : State) (hj346_1097 : Heap) (Lj346_1097 : List Loc) , (Stand p l e room_1 (s.setVm T39.vm) m #[(.int i0), (.int i1), (.int i2), (.int i3), (.int i4)] below meth c T346_1097 Lj346_1097 34 262) → (T346_1097.heap = hj346_1097) → (Fr n0 Lj346_1097) → (n0 ≤ hj346_1097.size) → (T39.heap.size ≤ hj346_1097.size) → (own_Opt Z hj346_1097 ru "java/lang/String") → (own_Opt Z hj346_1097 rv "java/lang/String") → (own_Opt Z hj346_1097 rx "java/lang/String") → (Exa Z hj346_1097 z0_1046 own_CO) → (Arv Z hj346_1097 y2_1046 ky2_1046 (.object own_NM) (16 : Int32) sj289_1061.2.2.1 .null) → (Arv Z hj346_1097 y3_1046 ky3_1046 (.object "java/lang/String") (16 : Int32) sj289_1061.2.2.2 .null) → (Fld Z hj346_1097 z0_1046 own_CO "declared" "Lcom/example/valbonne/valbonne/codec/DeclaredAttributes;" .null) → (Fld Z hj346_1097 z0_1046 own_CO "loose" "Z" (.int (1 : Int32))) → (Fld Z hj346_1097 z0_1046 own_CO "page" "I" (.int (0 : Int32))) → (Fld Z hj346_1097 z0_1046 own_CO "endPage" "I" (.int (0 : Int32))) → (Fld Z hj346_1097 z0_1046 own_CO "bytes" "[B" (.ref y1_1046)) → (Fld Z hj346_1097 z0_1046 own_CO "length" "I" (.int (0 : Int32))) → (Fld Z hj346_1097 z0_1046 own_CO "names" "[Lcom/example/valbonne/valbonne/codec/Name;" (.ref y2_1046)) → (Fld Z hj346_1097 z0_1046 own_CO "values" "[Ljava/lang/String;" (.ref y3_1046)) → (Fld Z hj346_1097 z0_1046 own_CO "size" "I" (.int (Int32.ofNat sj289_1061.2.1))) → (Fld Z hj346_1097 z0_1046 own_CO "known" "Z" (.int (1 : Int32))) → own_GoesW p e below s (Q0 Z i0 i1 i2 i3 i4 cz h0 n0) room_1.cells room_1.slots T346_1097 (own_G m i0 i1 i2 i3 i4 vb nn vk b5 b8 b11 ru rv rx b35 b37 (.val (.ref z0_1046)) .unset .unset 346 []) := by
  have hown := hown0
  have hZ := hZ0
  intro T346_1097 hj346_1097 Lj346_1097  X346_1097 e346_1097 N346_1097 Zj346_1097 Ws346_1097 Fj346_1097_0 Fj346_1097_1 Fj346_1097_2 Fj346_1097_3 Fj346_1097_6 Fj346_1097_7 Fj346_1097_8 Fj346_1097_9 Fj346_1097_10 Fj346_1097_11 Fj346_1097_12 Fj346_1097_13 Fj346_1097_14 Fj346_1097_15 Fj346_1097_16 Fj346_1097_17
  have hr_ru : ru.isRef = true := Fj346_1097_0.isR
  have hr_rv : rv.isRef = true := Fj346_1097_1.isR
  have hr_rx : rx.isRef = true := Fj346_1097_2.isR
  refine own_stepW (f' := (own_G m i0 i1 i2 i3 i4 vb nn vk b5 b8 b11 ru rv rx b35 b37 (.val (.ref z0_1046)) .unset .unset 348 [(.int nn)])) (fun _ k => XS.iload X346_1097.here hx rfl (hb hby at_346) rfl k) ?_
  refine own_stepW (f' := (own_G m i0 i1 i2 i3 i4 vb nn vk b5 b8 b11 ru rv rx b35 b37 (.val (.ref z0_1046)) .unset .unset 350 [(.int vk), (.int nn)])) (fun _ k => XS.iload X346_1097.here hx rfl (hb hby at_348) rfl k) ?_
  have hf350_1098 : vk = (0 : Int32) := (by rw [hbk] <;> decide)
  refine own_stepW (f' := (own_G m i0 i1 i2 i3 i4 vb nn vk b5 b8 b11 ru rv rx b35 b37 (.val (.ref z0_1046)) .unset .unset 358 [(.int nn)])) (fun _ k => XS.ifYes X346_1097.here hx rfl (pc0 := 350) (pc' := 358) rfl (hb hby at_350) rfl ((if0 _ _).trans (teq hf350_1098).1) (by decide) (by decide) k) ?_
  refine own_stepW (f' := (own_G m i0 i1 i2 i3 i4 vb nn vk b5 b8 b11 ru rv rx b35 b37 (.val (.ref z0_1046)) .unset .unset 359 [(.int (0 : Int32)), (.int nn)])) (fun _ k => XS.iconst X346_1097.here hx rfl (hb hby at_358) k) ?_
  refine own_stepW (f' := (own_G m i0 i1 i2 i3 i4 vb nn vk b5 b8 b11 ru rv rx b35 b37 (.val (.ref z0_1046)) .unset .unset 360 [(.int (nn + (0 : Int32)))])) (fun _ k => XS.iadd X346_1097.here hx rfl (hb hby at_359) rfl k) ?_
  refine own_stepW (f' := (own_G m i0 i1 i2 i3 i4 vb nn vk b5 b8 b11 ru rv rx b35 b37 (.val (.ref z0_1046)) (.val (.int (nn + (0 : Int32)))) .unset 362 [])) (fun _ k => XS.istore X346_1097.here hx rfl (hb hby at_360) rfl (l' := #[.val (.int i0), .val (.int i1), .val (.int i2), .val (.int i3), .val (.int i4), .val (.int vb), .val (.int nn), .val (.int vk), .val (.ref b5), .val (.ref b8), .val (.ref b11), .val ru, .val rv, .val rx, .val (.ref b35), .val (.ref b37), .val (.ref z0_1046), .val (.int (nn + (0 : Int32))), .unset]) rfl k) ?_
  refine own_stepW (f' := (own_G m i0 i1 i2 i3 i4 vb nn vk b5 b8 b11 ru rv rx b35 b37 (.val (.ref z0_1046)) (.val (.int (nn + (0 : Int32)))) .unset 364 [(.int vb)])) (fun _ k => XS.iload X346_1097.here hx rfl (hb hby at_362) rfl k) ?_
  have hf364_1099 : ¬ (vb = (0 : Int32)) := (by rw [hbeg] <;> decide)
  refine own_stepW (f' := (own_G m i0 i1 i2 i3 i4 vb nn vk b5 b8 b11 ru rv rx b35 b37 (.val (.ref z0_1046)) (.val (.int (nn + (0 : Int32)))) .unset 367 [])) (fun _ k => XS.ifNo X346_1097.here hx rfl (hb hby at_364) rfl ((if0 _ _).trans (feq hf364_1099).1) k) ?_
  refine own_stepW (f' := (own_G m i0 i1 i2 i3 i4 vb nn vk b5 b8 b11 ru rv rx b35 b37 (.val (.ref z0_1046)) (.val (.int (nn + (0 : Int32)))) .unset 369 [(.int (nn + (0 : Int32)))])) (fun _ k => XS.iload X346_1097.here hx rfl (hb hby at_367) rfl k) ?_
  refine own_stepW (f' := (own_G m i0 i1 i2 i3 i4 vb nn vk b5 b8 b11 ru rv rx b35 b37 (.val (.ref z0_1046)) (.val (.int (nn + (0 : Int32)))) .unset 371 [(.int (16 : Int32)), (.int (nn + (0 : Int32)))])) (fun _ k => XS.bipush X346_1097.here hx rfl (hb hby at_369) k) ?_
  have hf371_1100 : ¬ ((16 : Int32) < (nn + (0 : Int32))) := (by rw [hn] <;> decide)
  refine own_stepW (f' := (own_G m i0 i1 i2 i3 i4 vb nn vk b5 b8 b11 ru rv rx b35 b37 (.val (.ref z0_1046)) (.val (.int (nn + (0 : Int32)))) .unset 389 [])) (fun _ k => XS.icmpYes X346_1097.here hx rfl (pc0 := 371) (pc' := 389) rfl (hb hby at_371) rfl (flt hf371_1100).2.2.2 (by decide) (by decide) k) ?_
  refine own_stepW (f' := (own_G m i0 i1 i2 i3 i4 vb nn vk b5 b8 b11 ru rv rx b35 b37 (.val (.ref z0_1046)) (.val (.int (nn + (0 : Int32)))) .unset 391 [(.ref z0_1046)])) (fun _ k => XS.aload X346_1097.here hx rfl (hb hby at_389) rfl rfl k) ?_
  refine own_stepW (f' := (own_G m i0 i1 i2 i3 i4 vb nn vk b5 b8 b11 ru rv rx b35 b37 (.val (.ref z0_1046)) (.val (.int (nn + (0 : Int32)))) .unset 394 [])) (fun _ k => XS.ifnullNo X346_1097.here hx rfl (hb hby at_391) rfl k) ?_
  refine own_stepW (f' := (own_G m i0 i1 i2 i3 i4 vb nn vk b5 b8 b11 ru rv rx b35 b37 (.val (.ref z0_1046)) (.val (.int (nn + (0 : Int32)))) .unset 396 [(.ref z0_1046)])) (fun _ k => XS.aload X346_1097.here hx rfl (hb hby at_394) rfl rfl k) ?_
  have Zq1101 : n0 ≤ hj346_1097.size := Zj346_1097
  obtain ⟨cq1101, kq1101, q1101a, q1101b, q1101c⟩ := isOf hZ39 e346_1097 Fj346_1097_3
  obtain ⟨_, _, ⟨T1101, L1101, k1101, n1101⟩, -, X1101, ⟨Lc1101, hQ1101, l1101, y1101, z1101⟩, st1101⟩ := X346_1097.virtualBack hx (y := (⟨own_CO, "size", "()I"⟩ : MethodName)) (z := (⟨own_CO, "size", "()I"⟩ : MethodName)) hown39 (mvT hZ39 (own_w222 hw)) (mvT hZ39 (own_w223 hw)) (notFace_of_selects (args := #[]) (mvT hZ39 (own_w225 hw))) (mvT hZ39 (own_w225 hw)) (mvT hZ39 (own_w224 hw)) (by decide) (backOf (W := 0) (rm28 l Z a0 hw [] z0_1046 (Int32.ofNat sj289_1061.2.1) hj346_1097 n0 Zq1101 Fj346_1097_16) hZ39 (own_w226 hw) (own_w148 hw) (by decide) (by decide)) q1101a q1101c (g := (own_G m i0 i1 i2 i3 i4 vb nn vk b5 b8 b11 ru rv rx b35 b37 (.val (.ref z0_1046)) (.val (.int (nn + (0 : Int32)))) .unset 396 [(.ref z0_1046)])) rfl (by rw [hml]; rfl) (Steps.refl _) (argsL := []) (rest := []) (lenOf pd_8 rfl) rfl (by show 2 * 0 + _ ≤ _; exact Nat.le_of_eq rfl) (hb hby at_396) (fun _ _ => ⟨rfl, e346_1097, (by decide : 34 + 0 ≤ _), (by decide : 262 + 0 ≤ _)⟩)
  dsimp only [Pt.U, Pt.locs, Pt.cells, Pt.slots] at X1101 l1101 y1101 z1101 st1101 hQ1101
  subst l1101 y1101 z1101
  obtain ⟨rfl, rfl, e1101⟩ := hQ1101
  try rw [List.append_nil] at X1101
  refine own_jumpW (f' := (own_G m i0 i1 i2 i3 i4 vb nn vk b5 b8 b11 ru rv rx b35 b37 (.val (.ref z0_1046)) (.val (.int (nn + (0 : Int32)))) .unset 399 [(.int (Int32.ofNat sj289_1061.2.1))])) st1101 ?_
  refine own_stepW (f' := (own_G m i0 i1 i2 i3 i4 vb nn vk b5 b8 b11 ru rv rx b35 b37 (.val (.ref z0_1046)) (.val (.int (nn + (0 : Int32)))) .unset 401 [(.int (nn + (0 : Int32))), (.int (Int32.ofNat sj289_1061.2.1))])) (fun _ k => XS.iload X1101.here hx rfl (hb hby at_399) rfl k) ?_
  have hf401_1102 : (Int32.ofNat sj289_1061.2.1) = (nn + (0 : Int32)) := (by rw [hk, hn] <;> decide)
  refine own_stepW (f' := (own_G m i0 i1 i2 i3 i4 vb nn vk b5 b8 b11 ru rv rx b35 b37 (.val (.ref z0_1046)) (.val (.int (nn + (0 : Int32)))) .unset 404 [])) (fun _ k => XS.icmpNo X1101.here hx rfl (hb hby at_401) rfl (teq hf401_1102).2 k) ?_
  refine own_stepW (f' := (own_G m i0 i1 i2 i3 i4 vb nn vk b5 b8 b11 ru rv rx b35 b37 (.val (.ref z0_1046)) (.val (.int (nn + (0 : Int32)))) .unset 406 [(.int nn)])) (fun _ k => XS.iload X1101.here hx rfl (hb hby at_404) rfl k) ?_
  refine own_stepW (f' := (own_G m i0 i1 i2 i3 i4 vb nn vk b5 b8 b11 ru rv rx b35 b37 (.val (.ref z0_1046)) (.val (.int (nn + (0 : Int32)))) .unset 407 [(.int (1 : Int32)), (.int nn)])) (fun _ k => XS.iconst X1101.here hx rfl (hb hby at_406) k) ?_
  have hf407_1103 : ¬ (nn < (1 : Int32)) := (by rw [hn] <;> decide)
  refine own_stepW (f' := (own_G m i0 i1 i2 i3 i4 vb nn vk b5 b8 b11 ru rv rx b35 b37 (.val (.ref z0_1046)) (.val (.int (nn + (0 : Int32)))) .unset 410 [])) (fun _ k => XS.icmpNo X1101.here hx rfl (hb hby at_407) rfl (flt hf407_1103).1 k) ?_
  refine own_stepW (f' := (own_G m i0 i1 i2 i3 i4 vb nn vk b5 b8 b11 ru rv rx b35 b37 (.val (.ref z0_1046)) (.val (.int (nn + (0 : Int32)))) .unset 412 [(.ref z0_1046)])) (fun _ k => XS.aload X1101.here hx rfl (hb hby at_410) rfl rfl k) ?_
  refine own_stepW (f' := (own_G m i0 i1 i2 i3 i4 vb nn vk b5 b8 b11 ru rv rx b35 b37 (.val (.ref z0_1046)) (.val (.int (nn + (0 : Int32)))) .unset 413 [(.int (0 : Int32)), (.ref z0_1046)])) (fun _ k => XS.iconst X1101.here hx rfl (hb hby at_412) k) ?_
  refine own_stepW (f' := (own_G m i0 i1 i2 i3 i4 vb nn vk b5 b8 b11 ru rv rx b35 b37 (.val (.ref z0_1046)) (.val (.int (nn + (0 : Int32)))) .unset 415 [(.ref b5), (.int (0 : Int32)), (.ref z0_1046)])) (fun _ k => XS.aload X1101.here hx rfl (hb hby at_413) rfl rfl k) ?_
  refine own_stepW (f' := (own_G m i0 i1 i2 i3 i4 vb nn vk b5 b8 b11 ru rv rx b35 b37 (.val (.ref z0_1046)) (.val (.int (nn + (0 : Int32)))) .unset 417 [ru, (.ref b5), (.int (0 : Int32)), (.ref z0_1046)])) (fun _ k => XS.aload X1101.here hx rfl (hb hby at_415) rfl hr_ru k) ?_
  have hp1104_hj : ¬ (0 : Int32) < (0 : Int32) ∧ (0 : Int32) < (16 : Int32) := ⟨by decide, by decide⟩
  have hp1104_hq1 : sj289_1061.2.2.1.getD (0 : Int32).toNatClampNeg .null = .ref b5 := pz0
  have hp1104_hq2 : sj289_1061.2.2.2.getD (0 : Int32).toNatClampNeg .null = ru := qz0
  have Zq1104 : n0 ≤ hj346_1097.size := Zj346_1097
  obtain ⟨_, _, ⟨T1104, L1104, k1104, n1104⟩, -, X1104, ⟨Lc1104, hQ1104, l1104, y1104, z1104⟩, st1104⟩ := Jvm.LawKit.callS X1101 hx (y := (⟨"com/example/valbonne/valbonne/codec/AttributeCodingsAddPinLaw", "at", "(Lcom/example/valbonne/valbonne/codec/AttributeCodings$Coding;ILcom/example/valbonne/valbonne/codec/Name;Ljava/lang/String;)Z"⟩ : MethodName)) hown39 (mvT hZ39 (own_w227 hw)) (mvT hZ39 (own_w228 hw)) (mvT hZ39 (own_w229 hw)) (mvT hZ39 (own_w230 hw)) (by decide) (backOf (W := 0) (rm29 l Z a0 hw [] z0_1046 (0 : Int32) b5 ru y2_1046 ky2_1046 sj289_1061.2.2.1 y3_1046 ky3_1046 sj289_1061.2.2.2 hj346_1097 n0 Zq1104 Fj346_1097_0 Fj346_1097_3 Fj346_1097_14 Fj346_1097_6 Fj346_1097_15 Fj346_1097_7 hp1104_hj hp1104_hq1 hp1104_hq2) hZ39 (own_w230 hw) (own_w229 hw) (by decide) (by decide)) (g := (own_G m i0 i1 i2 i3 i4 vb nn vk b5 b8 b11 ru rv rx b35 b37 (.val (.ref z0_1046)) (.val (.int (nn + (0 : Int32)))) .unset 417 [ru, (.ref b5), (.int (0 : Int32)), (.ref z0_1046)])) rfl (by rw [hml]; rfl) (argsL := [(.ref z0_1046), (.int (0 : Int32)), (.ref b5), ru]) (rest := []) (lenOf pd_26 rfl) rfl (by show 2 * 0 + _ ≤ _; exact Nat.le_of_eq rfl) (hb hby at_417) (fun _ _ => ⟨rfl, e1101, (by decide : 34 + 0 ≤ _), (by decide : 262 + 0 ≤ _)⟩)
  dsimp only [Pt.U, Pt.locs, Pt.cells, Pt.slots] at X1104 l1104 y1104 z1104 st1104 hQ1104
  subst l1104 y1104 z1104
  obtain ⟨rfl, rfl, e1104⟩ := hQ1104
  try rw [List.append_nil] at X1104
  refine own_stepW (f' := (own_G m i0 i1 i2 i3 i4 vb nn vk b5 b8 b11 ru rv rx b35 b37 (.val (.ref z0_1046)) (.val (.int (nn + (0 : Int32)))) .unset 420 [(.int (1 : Int32))])) st1104 ?_
  refine own_stepW (f' := (own_G m i0 i1 i2 i3 i4 vb nn vk b5 b8 b11 ru rv rx b35 b37 (.val (.ref z0_1046)) (.val (.int (nn + (0 : Int32)))) .unset 423 [])) (fun _ k => XS.ifNo X1104.here hx rfl (hb hby at_420) rfl ((if0 _ _).trans (feq (by decide : ¬ ((1 : Int32) = (0 : Int32)))).1) k) ?_
  refine own_stepW (f' := (own_G m i0 i1 i2 i3 i4 vb nn vk b5 b8 b11 ru rv rx b35 b37 (.val (.ref z0_1046)) (.val (.int (nn + (0 : Int32)))) .unset 425 [(.int nn)])) (fun _ k => XS.iload X1104.here hx rfl (hb hby at_423) rfl k) ?_
  refine own_stepW (f' := (own_G m i0 i1 i2 i3 i4 vb nn vk b5 b8 b11 ru rv rx b35 b37 (.val (.ref z0_1046)) (.val (.int (nn + (0 : Int32)))) .unset 426 [(.int (2 : Int32)), (.int nn)])) (fun _ k => XS.iconst X1104.here hx rfl (hb hby at_425) k) ?_
  have hf426_1105 : ¬ (nn < (2 : Int32)) := (by rw [hn] <;> decide)
  refine own_stepW (f' := (own_G m i0 i1 i2 i3 i4 vb nn vk b5 b8 b11 ru rv rx b35 b37 (.val (.ref z0_1046)) (.val (.int (nn + (0 : Int32)))) .unset 429 [])) (fun _ k => XS.icmpNo X1104.here hx rfl (hb hby at_426) rfl (flt hf426_1105).1 k) ?_
  refine own_stepW (f' := (own_G m i0 i1 i2 i3 i4 vb nn vk b5 b8 b11 ru rv rx b35 b37 (.val (.ref z0_1046)) (.val (.int (nn + (0 : Int32)))) .unset 431 [(.ref z0_1046)])) (fun _ k => XS.aload X1104.here hx rfl (hb hby at_429) rfl rfl k) ?_
  refine own_stepW (f' := (own_G m i0 i1 i2 i3 i4 vb nn vk b5 b8 b11 ru rv rx b35 b37 (.val (.ref z0_1046)) (.val (.int (nn + (0 : Int32)))) .unset 432 [(.int (1 : Int32)), (.ref z0_1046)])) (fun _ k => XS.iconst X1104.here hx rfl (hb hby at_431) k) ?_
  refine own_stepW (f' := (own_G m i0 i1 i2 i3 i4 vb nn vk b5 b8 b11 ru rv rx b35 b37 (.val (.ref z0_1046)) (.val (.int (nn + (0 : Int32)))) .unset 434 [(.ref b8), (.int (1 : Int32)), (.ref z0_1046)])) (fun _ k => XS.aload X1104.here hx rfl (hb hby at_432) rfl rfl k) ?_
  refine own_stepW (f' := (own_G m i0 i1 i2 i3 i4 vb nn vk b5 b8 b11 ru rv rx b35 b37 (.val (.ref z0_1046)) (.val (.int (nn + (0 : Int32)))) .unset 436 [rv, (.ref b8), (.int (1 : Int32)), (.ref z0_1046)])) (fun _ k => XS.aload X1104.here hx rfl (hb hby at_434) rfl hr_rv k) ?_
  have hp1106_hj : ¬ (1 : Int32) < (0 : Int32) ∧ (1 : Int32) < (16 : Int32) := ⟨by decide, by decide⟩
  have hp1106_hq1 : sj289_1061.2.2.1.getD (1 : Int32).toNatClampNeg .null = .ref b8 := pz1
  have hp1106_hq2 : sj289_1061.2.2.2.getD (1 : Int32).toNatClampNeg .null = rv := qz1
  have Zq1106 : n0 ≤ hj346_1097.size := Zj346_1097
  obtain ⟨_, _, ⟨T1106, L1106, k1106, n1106⟩, -, X1106, ⟨Lc1106, hQ1106, l1106, y1106, z1106⟩, st1106⟩ := Jvm.LawKit.callS X1104 hx (y := (⟨"com/example/valbonne/valbonne/codec/AttributeCodingsAddPinLaw", "at", "(Lcom/example/valbonne/valbonne/codec/AttributeCodings$Coding;ILcom/example/valbonne/valbonne/codec/Name;Ljava/lang/String;)Z"⟩ : MethodName)) hown39 (mvT hZ39 (own_w227 hw)) (mvT hZ39 (own_w228 hw)) (mvT hZ39 (own_w229 hw)) (mvT hZ39 (own_w230 hw)) (by decide) (backOf (W := 0) (rm29 l Z a0 hw [] z0_1046 (1 : Int32) b8 rv y2_1046 ky2_1046 sj289_1061.2.2.1 y3_1046 ky3_1046 sj289_1061.2.2.2 hj346_1097 n0 Zq1106 Fj346_1097_1 Fj346_1097_3 Fj346_1097_14 Fj346_1097_6 Fj346_1097_15 Fj346_1097_7 hp1106_hj hp1106_hq1 hp1106_hq2) hZ39 (own_w230 hw) (own_w229 hw) (by decide) (by decide)) (g := (own_G m i0 i1 i2 i3 i4 vb nn vk b5 b8 b11 ru rv rx b35 b37 (.val (.ref z0_1046)) (.val (.int (nn + (0 : Int32)))) .unset 436 [rv, (.ref b8), (.int (1 : Int32)), (.ref z0_1046)])) rfl (by rw [hml]; rfl) (argsL := [(.ref z0_1046), (.int (1 : Int32)), (.ref b8), rv]) (rest := []) (lenOf pd_26 rfl) rfl (by show 2 * 0 + _ ≤ _; exact Nat.le_of_eq rfl) (hb hby at_436) (fun _ _ => ⟨rfl, e1104, (by decide : 34 + 0 ≤ _), (by decide : 262 + 0 ≤ _)⟩)
  dsimp only [Pt.U, Pt.locs, Pt.cells, Pt.slots] at X1106 l1106 y1106 z1106 st1106 hQ1106
  subst l1106 y1106 z1106
  obtain ⟨rfl, rfl, e1106⟩ := hQ1106
  try rw [List.append_nil] at X1106
  refine own_stepW (f' := (own_G m i0 i1 i2 i3 i4 vb nn vk b5 b8 b11 ru rv rx b35 b37 (.val (.ref z0_1046)) (.val (.int (nn + (0 : Int32)))) .unset 439 [(.int (1 : Int32))])) st1106 ?_
  refine own_stepW (f' := (own_G m i0 i1 i2 i3 i4 vb nn vk b5 b8 b11 ru rv rx b35 b37 (.val (.ref z0_1046)) (.val (.int (nn + (0 : Int32)))) .unset 442 [])) (fun _ k => XS.ifNo X1106.here hx rfl (hb hby at_439) rfl ((if0 _ _).trans (feq (by decide : ¬ ((1 : Int32) = (0 : Int32)))).1) k) ?_
  refine own_stepW (f' := (own_G m i0 i1 i2 i3 i4 vb nn vk b5 b8 b11 ru rv rx b35 b37 (.val (.ref z0_1046)) (.val (.int (nn + (0 : Int32)))) .unset 444 [(.int nn)])) (fun _ k => XS.iload X1106.here hx rfl (hb hby at_442) rfl k) ?_
  refine own_stepW (f' := (own_G m i0 i1 i2 i3 i4 vb nn vk b5 b8 b11 ru rv rx b35 b37 (.val (.ref z0_1046)) (.val (.int (nn + (0 : Int32)))) .unset 445 [(.int (3 : Int32)), (.int nn)])) (fun _ k => XS.iconst X1106.here hx rfl (hb hby at_444) k) ?_
  have hf445_1107 : ¬ (nn < (3 : Int32)) := (by rw [hn] <;> decide)
  refine own_stepW (f' := (own_G m i0 i1 i2 i3 i4 vb nn vk b5 b8 b11 ru rv rx b35 b37 (.val (.ref z0_1046)) (.val (.int (nn + (0 : Int32)))) .unset 448 [])) (fun _ k => XS.icmpNo X1106.here hx rfl (hb hby at_445) rfl (flt hf445_1107).1 k) ?_
  refine own_stepW (f' := (own_G m i0 i1 i2 i3 i4 vb nn vk b5 b8 b11 ru rv rx b35 b37 (.val (.ref z0_1046)) (.val (.int (nn + (0 : Int32)))) .unset 450 [(.ref z0_1046)])) (fun _ k => XS.aload X1106.here hx rfl (hb hby at_448) rfl rfl k) ?_
  refine own_stepW (f' := (own_G m i0 i1 i2 i3 i4 vb nn vk b5 b8 b11 ru rv rx b35 b37 (.val (.ref z0_1046)) (.val (.int (nn + (0 : Int32)))) .unset 451 [(.int (2 : Int32)), (.ref z0_1046)])) (fun _ k => XS.iconst X1106.here hx rfl (hb hby at_450) k) ?_
  refine own_stepW (f' := (own_G m i0 i1 i2 i3 i4 vb nn vk b5 b8 b11 ru rv rx b35 b37 (.val (.ref z0_1046)) (.val (.int (nn + (0 : Int32)))) .unset 453 [(.ref b11), (.int (2 : Int32)), (.ref z0_1046)])) (fun _ k => XS.aload X1106.here hx rfl (hb hby at_451) rfl rfl k) ?_
  refine own_stepW (f' := (own_G m i0 i1 i2 i3 i4 vb nn vk b5 b8 b11 ru rv rx b35 b37 (.val (.ref z0_1046)) (.val (.int (nn + (0 : Int32)))) .unset 455 [rx, (.ref b11), (.int (2 : Int32)), (.ref z0_1046)])) (fun _ k => XS.aload X1106.here hx rfl (hb hby at_453) rfl hr_rx k) ?_
  have hp1108_hj : ¬ (2 : Int32) < (0 : Int32) ∧ (2 : Int32) < (16 : Int32) := ⟨by decide, by decide⟩
  have hp1108_hq1 : sj289_1061.2.2.1.getD (2 : Int32).toNatClampNeg .null = .ref b11 := pz2
  have hp1108_hq2 : sj289_1061.2.2.2.getD (2 : Int32).toNatClampNeg .null = rx := qz2
  have Zq1108 : n0 ≤ hj346_1097.size := Zj346_1097
  obtain ⟨_, _, ⟨T1108, L1108, k1108, n1108⟩, -, X1108, ⟨Lc1108, hQ1108, l1108, y1108, z1108⟩, st1108⟩ := Jvm.LawKit.callS X1106 hx (y := (⟨"com/example/valbonne/valbonne/codec/AttributeCodingsAddPinLaw", "at", "(Lcom/example/valbonne/valbonne/codec/AttributeCodings$Coding;ILcom/example/valbonne/valbonne/codec/Name;Ljava/lang/String;)Z"⟩ : MethodName)) hown39 (mvT hZ39 (own_w227 hw)) (mvT hZ39 (own_w228 hw)) (mvT hZ39 (own_w229 hw)) (mvT hZ39 (own_w230 hw)) (by decide) (backOf (W := 0) (rm29 l Z a0 hw [] z0_1046 (2 : Int32) b11 rx y2_1046 ky2_1046 sj289_1061.2.2.1 y3_1046 ky3_1046 sj289_1061.2.2.2 hj346_1097 n0 Zq1108 Fj346_1097_2 Fj346_1097_3 Fj346_1097_14 Fj346_1097_6 Fj346_1097_15 Fj346_1097_7 hp1108_hj hp1108_hq1 hp1108_hq2) hZ39 (own_w230 hw) (own_w229 hw) (by decide) (by decide)) (g := (own_G m i0 i1 i2 i3 i4 vb nn vk b5 b8 b11 ru rv rx b35 b37 (.val (.ref z0_1046)) (.val (.int (nn + (0 : Int32)))) .unset 455 [rx, (.ref b11), (.int (2 : Int32)), (.ref z0_1046)])) rfl (by rw [hml]; rfl) (argsL := [(.ref z0_1046), (.int (2 : Int32)), (.ref b11), rx]) (rest := []) (lenOf pd_26 rfl) rfl (by show 2 * 0 + _ ≤ _; exact Nat.le_of_eq rfl) (hb hby at_455) (fun _ _ => ⟨rfl, e1106, (by decide : 34 + 0 ≤ _), (by decide : 262 + 0 ≤ _)⟩)
  dsimp only [Pt.U, Pt.locs, Pt.cells, Pt.slots] at X1108 l1108 y1108 z1108 st1108 hQ1108
  subst l1108 y1108 z1108
  obtain ⟨rfl, rfl, e1108⟩ := hQ1108
  try rw [List.append_nil] at X1108
  refine own_stepW (f' := (own_G m i0 i1 i2 i3 i4 vb nn vk b5 b8 b11 ru rv rx b35 b37 (.val (.ref z0_1046)) (.val (.int (nn + (0 : Int32)))) .unset 458 [(.int (1 : Int32))])) st1108 ?_
  refine own_stepW (f' := (own_G m i0 i1 i2 i3 i4 vb nn vk b5 b8 b11 ru rv rx b35 b37 (.val (.ref z0_1046)) (.val (.int (nn + (0 : Int32)))) .unset 461 [])) (fun _ k => XS.ifNo X1108.here hx rfl (hb hby at_458) rfl ((if0 _ _).trans (feq (by decide : ¬ ((1 : Int32) = (0 : Int32)))).1) k) ?_
  refine own_stepW (f' := (own_G m i0 i1 i2 i3 i4 vb nn vk b5 b8 b11 ru rv rx b35 b37 (.val (.ref z0_1046)) (.val (.int (nn + (0 : Int32)))) .unset 463 [(.int vk)])) (fun _ k => XS.iload X1108.here hx rfl (hb hby at_461) rfl k) ?_
  have hf463_1109 : vk = (0 : Int32) := (by rw [hbk] <;> decide)
  refine own_stepW (f' := (own_G m i0 i1 i2 i3 i4 vb nn vk b5 b8 b11 ru rv rx b35 b37 (.val (.ref z0_1046)) (.val (.int (nn + (0 : Int32)))) .unset 507 [])) (fun _ k => XS.ifYes X1108.here hx rfl (pc0 := 463) (pc' := 507) rfl (hb hby at_463) rfl ((if0 _ _).trans (teq hf463_1109).1) (by decide) (by decide) k) ?_
  refine own_stepW (f' := (own_G m i0 i1 i2 i3 i4 vb nn vk b5 b8 b11 ru rv rx b35 b37 (.val (.ref z0_1046)) (.val (.int (nn + (0 : Int32)))) .unset 508 [(.int (1 : Int32))])) (fun _ k => XS.iconst X1108.here hx rfl (hb hby at_507) k) ?_
  refine own_stepW (f' := (own_G m i0 i1 i2 i3 i4 vb nn vk b5 b8 b11 ru rv rx b35 b37 (.val (.ref z0_1046)) (.val (.int (nn + (0 : Int32)))) .unset 512 [(.int (1 : Int32))])) (fun _ k => XS.goto X1108.here hx rfl (pc0 := 508) (pc' := 512) rfl (hb hby at_508) (by decide) (by decide) k) ?_
  refine own_stepW (f' := (own_G m i0 i1 i2 i3 i4 vb nn vk b5 b8 b11 ru rv rx b35 b37 (.val (.ref z0_1046)) (.val (.int (nn + (0 : Int32)))) (.val (.int (1 : Int32))) 514 [])) (fun _ k => XS.istore X1108.here hx rfl (hb hby at_512) rfl (l' := #[.val (.int i0), .val (.int i1), .val (.int i2), .val (.int i3), .val (.int i4), .val (.int vb), .val (.int nn), .val (.int vk), .val (.ref b5), .val (.ref b8), .val (.ref b11), .val ru, .val rv, .val rx, .val (.ref b35), .val (.ref b37), .val (.ref z0_1046), .val (.int (nn + (0 : Int32))), .val (.int (1 : Int32))]) rfl k) ?_
  refine own_stepW (f' := (own_G m i0 i1 i2 i3 i4 vb nn vk b5 b8 b11 ru rv rx b35 b37 (.val (.ref z0_1046)) (.val (.int (nn + (0 : Int32)))) (.val (.int (1 : Int32))) 516 [(.int (1 : Int32))])) (fun _ k => XS.iload X1108.here hx rfl (hb hby at_514) rfl k) ?_
  refine own_outW (v := some (.int (1 : Int32))) X1108 hS39 (by rw [e1108]; exact Ws346_1097) hlk (fun h => by rw [hret] at h; cases h) (fun fs hr => retN X1108 hx (t := .boolean) hret (by simp) (hb hby at_516) hr) (by decide) (by decide) ?_
  exact ⟨rfl, N346_1097⟩
set_option maxRecDepth 65536 in
set_option maxHeartbeats 40000000 in
theorem own_J346_1110 (l : Launch) (Z : State) (a0 : Array Value) (hw : own_HW a0 Z) (h0 : Heap) (n0 : Nat) (p : Program) (e : Env) (s : State) (m : MethodId) (below : List Frame) (meth : Method) (c : Code) (hx : p.tables.exec = Jvm.exec) (hby : c.code = code) (hlk : meth.locks = false) (hml : c.maxLocals = 19) (hown0 : s.vm.findClass "com/example/valbonne/valbonne/codec/AttributeCodingsAddPinLaw" = some m.cls) (hZ0 : Z.Warmed39 s.vm) (hret : meth.sig.returnType = some .boolean) (i0 : Int32) (i1 : Int32) (i2 : Int32) (i3 : Int32) (i4 : Int32) (cz : Int32) (vb : Int32) (nn : Int32) (vk : Int32) (b5 : Addr) (b8 : Addr) (b11 : Addr) (ru : Value) (rv : Value) (rx : Value) (b35 : Addr) (b37 : Addr) (T39 : State) (z0_1046 : Addr) (y1_1046 : Addr) (y2_1046 : Addr) (ky2_1046 : ClassId) (y3_1046 : Addr) (ky3_1046 : ClassId) (sj289_1061 : own_St) (hr_ru : ru.isRef = true) (hr_rv : rv.isRef = true) (hr_rx : rx.isRef = true) (hZ39 : Z.Warmed39 (s.setVm T39.vm).vm) (hown39 : (s.setVm T39.vm).vm.findClass "com/example/valbonne/valbonne/codec/AttributeCodingsAddPinLaw" = some m.cls) (hS39 : s.Since T39.vm T39.heap.size) (hbeg : vb = (1 : Int32)) (hn : nn = (0 : Int32)) (hbk : vk = (1 : Int32)) (hk : sj289_1061.2.1 = 16) (pz0 : sj289_1061.2.2.1.getD 0 .null = .ref b5) (qz0 : sj289_1061.2.2.2.getD 0 .null = ru) (pz7 : sj289_1061.2.2.1.getD 7 .null = .ref b5) (pz15 : sj289_1061.2.2.1.getD 15 .null = .ref b5) (qz7 : sj289_1061.2.2.2.getD 7 .null = ru) (qz15 : sj289_1061.2.2.2.getD 15 .null = ru) : ∀ (T346_1110 : State) (hj346_1110 : Heap) (Lj346_1110 : List Loc) , (Stand p l e room_1 (s.setVm T39.vm) m #[(.int i0), (.int i1), (.int i2), (.int i3), (.int i4)] below meth c T346_1110 Lj346_1110 34 262) → (T346_1110.heap = hj346_1110) → (Fr n0 Lj346_1110) → (n0 ≤ hj346_1110.size) → (T39.heap.size ≤ hj346_1110.size) → (own_Opt Z hj346_1110 ru "java/lang/String") → (own_Opt Z hj346_1110 rv "java/lang/String") → (own_Opt Z hj346_1110 rx "java/lang/String") → (Exa Z hj346_1110 z0_1046 own_CO) → (Arv Z hj346_1110 y2_1046 ky2_1046 (.object own_NM) (16 : Int32) sj289_1061.2.2.1 .null) → (Arv Z hj346_1110 y3_1046 ky3_1046 (.object "java/lang/String") (16 : Int32) sj289_1061.2.2.2 .null) → (Fld Z hj346_1110 z0_1046 own_CO "declared" "Lcom/example/valbonne/valbonne/codec/DeclaredAttributes;" .null) → (Fld Z hj346_1110 z0_1046 own_CO "loose" "Z" (.int (1 : Int32))) → (Fld Z hj346_1110 z0_1046 own_CO "page" "I" (.int (0 : Int32))) → (Fld Z hj346_1110 z0_1046 own_CO "endPage" "I" (.int (0 : Int32))) → (Fld Z hj346_1110 z0_1046 own_CO "bytes" "[B" (.ref y1_1046)) → (Fld Z hj346_1110 z0_1046 own_CO "length" "I" (.int (0 : Int32))) → (Fld Z hj346_1110 z0_1046 own_CO "names" "[Lcom/example/valbonne/valbonne/codec/Name;" (.ref y2_1046)) → (Fld Z hj346_1110 z0_1046 own_CO "values" "[Ljava/lang/String;" (.ref y3_1046)) → (Fld Z hj346_1110 z0_1046 own_CO "size" "I" (.int (Int32.ofNat sj289_1061.2.1))) → (Fld Z hj346_1110 z0_1046 own_CO "known" "Z" (.int (1 : Int32))) → own_GoesW p e below s (Q0 Z i0 i1 i2 i3 i4 cz h0 n0) room_1.cells room_1.slots T346_1110 (own_G m i0 i1 i2 i3 i4 vb nn vk b5 b8 b11 ru rv rx b35 b37 (.val (.ref z0_1046)) .unset .unset 346 []) := by
  have hown := hown0
  have hZ := hZ0
  intro T346_1110 hj346_1110 Lj346_1110  X346_1110 e346_1110 N346_1110 Zj346_1110 Ws346_1110 Fj346_1110_0 Fj346_1110_1 Fj346_1110_2 Fj346_1110_3 Fj346_1110_6 Fj346_1110_7 Fj346_1110_8 Fj346_1110_9 Fj346_1110_10 Fj346_1110_11 Fj346_1110_12 Fj346_1110_13 Fj346_1110_14 Fj346_1110_15 Fj346_1110_16 Fj346_1110_17
  have hr_ru : ru.isRef = true := Fj346_1110_0.isR
  have hr_rv : rv.isRef = true := Fj346_1110_1.isR
  have hr_rx : rx.isRef = true := Fj346_1110_2.isR
  refine own_stepW (f' := (own_G m i0 i1 i2 i3 i4 vb nn vk b5 b8 b11 ru rv rx b35 b37 (.val (.ref z0_1046)) .unset .unset 348 [(.int nn)])) (fun _ k => XS.iload X346_1110.here hx rfl (hb hby at_346) rfl k) ?_
  refine own_stepW (f' := (own_G m i0 i1 i2 i3 i4 vb nn vk b5 b8 b11 ru rv rx b35 b37 (.val (.ref z0_1046)) .unset .unset 350 [(.int vk), (.int nn)])) (fun _ k => XS.iload X346_1110.here hx rfl (hb hby at_348) rfl k) ?_
  have hf350_1111 : ¬ (vk = (0 : Int32)) := (by rw [hbk] <;> decide)
  refine own_stepW (f' := (own_G m i0 i1 i2 i3 i4 vb nn vk b5 b8 b11 ru rv rx b35 b37 (.val (.ref z0_1046)) .unset .unset 353 [(.int nn)])) (fun _ k => XS.ifNo X346_1110.here hx rfl (hb hby at_350) rfl ((if0 _ _).trans (feq hf350_1111).1) k) ?_
  refine own_stepW (f' := (own_G m i0 i1 i2 i3 i4 vb nn vk b5 b8 b11 ru rv rx b35 b37 (.val (.ref z0_1046)) .unset .unset 355 [(.int (16 : Int32)), (.int nn)])) (fun _ k => XS.bipush X346_1110.here hx rfl (hb hby at_353) k) ?_
  refine own_stepW (f' := (own_G m i0 i1 i2 i3 i4 vb nn vk b5 b8 b11 ru rv rx b35 b37 (.val (.ref z0_1046)) .unset .unset 359 [(.int (16 : Int32)), (.int nn)])) (fun _ k => XS.goto X346_1110.here hx rfl (pc0 := 355) (pc' := 359) rfl (hb hby at_355) (by decide) (by decide) k) ?_
  refine own_stepW (f' := (own_G m i0 i1 i2 i3 i4 vb nn vk b5 b8 b11 ru rv rx b35 b37 (.val (.ref z0_1046)) .unset .unset 360 [(.int (nn + (16 : Int32)))])) (fun _ k => XS.iadd X346_1110.here hx rfl (hb hby at_359) rfl k) ?_
  refine own_stepW (f' := (own_G m i0 i1 i2 i3 i4 vb nn vk b5 b8 b11 ru rv rx b35 b37 (.val (.ref z0_1046)) (.val (.int (nn + (16 : Int32)))) .unset 362 [])) (fun _ k => XS.istore X346_1110.here hx rfl (hb hby at_360) rfl (l' := #[.val (.int i0), .val (.int i1), .val (.int i2), .val (.int i3), .val (.int i4), .val (.int vb), .val (.int nn), .val (.int vk), .val (.ref b5), .val (.ref b8), .val (.ref b11), .val ru, .val rv, .val rx, .val (.ref b35), .val (.ref b37), .val (.ref z0_1046), .val (.int (nn + (16 : Int32))), .unset]) rfl k) ?_
  refine own_stepW (f' := (own_G m i0 i1 i2 i3 i4 vb nn vk b5 b8 b11 ru rv rx b35 b37 (.val (.ref z0_1046)) (.val (.int (nn + (16 : Int32)))) .unset 364 [(.int vb)])) (fun _ k => XS.iload X346_1110.here hx rfl (hb hby at_362) rfl k) ?_
  have hf364_1112 : ¬ (vb = (0 : Int32)) := (by rw [hbeg] <;> decide)
  refine own_stepW (f' := (own_G m i0 i1 i2 i3 i4 vb nn vk b5 b8 b11 ru rv rx b35 b37 (.val (.ref z0_1046)) (.val (.int (nn + (16 : Int32)))) .unset 367 [])) (fun _ k => XS.ifNo X346_1110.here hx rfl (hb hby at_364) rfl ((if0 _ _).trans (feq hf364_1112).1) k) ?_
  refine own_stepW (f' := (own_G m i0 i1 i2 i3 i4 vb nn vk b5 b8 b11 ru rv rx b35 b37 (.val (.ref z0_1046)) (.val (.int (nn + (16 : Int32)))) .unset 369 [(.int (nn + (16 : Int32)))])) (fun _ k => XS.iload X346_1110.here hx rfl (hb hby at_367) rfl k) ?_
  refine own_stepW (f' := (own_G m i0 i1 i2 i3 i4 vb nn vk b5 b8 b11 ru rv rx b35 b37 (.val (.ref z0_1046)) (.val (.int (nn + (16 : Int32)))) .unset 371 [(.int (16 : Int32)), (.int (nn + (16 : Int32)))])) (fun _ k => XS.bipush X346_1110.here hx rfl (hb hby at_369) k) ?_
  have hf371_1113 : ¬ ((16 : Int32) < (nn + (16 : Int32))) := (by rw [hn] <;> decide)
  refine own_stepW (f' := (own_G m i0 i1 i2 i3 i4 vb nn vk b5 b8 b11 ru rv rx b35 b37 (.val (.ref z0_1046)) (.val (.int (nn + (16 : Int32)))) .unset 389 [])) (fun _ k => XS.icmpYes X346_1110.here hx rfl (pc0 := 371) (pc' := 389) rfl (hb hby at_371) rfl (flt hf371_1113).2.2.2 (by decide) (by decide) k) ?_
  refine own_stepW (f' := (own_G m i0 i1 i2 i3 i4 vb nn vk b5 b8 b11 ru rv rx b35 b37 (.val (.ref z0_1046)) (.val (.int (nn + (16 : Int32)))) .unset 391 [(.ref z0_1046)])) (fun _ k => XS.aload X346_1110.here hx rfl (hb hby at_389) rfl rfl k) ?_
  refine own_stepW (f' := (own_G m i0 i1 i2 i3 i4 vb nn vk b5 b8 b11 ru rv rx b35 b37 (.val (.ref z0_1046)) (.val (.int (nn + (16 : Int32)))) .unset 394 [])) (fun _ k => XS.ifnullNo X346_1110.here hx rfl (hb hby at_391) rfl k) ?_
  refine own_stepW (f' := (own_G m i0 i1 i2 i3 i4 vb nn vk b5 b8 b11 ru rv rx b35 b37 (.val (.ref z0_1046)) (.val (.int (nn + (16 : Int32)))) .unset 396 [(.ref z0_1046)])) (fun _ k => XS.aload X346_1110.here hx rfl (hb hby at_394) rfl rfl k) ?_
  have Zq1114 : n0 ≤ hj346_1110.size := Zj346_1110
  obtain ⟨cq1114, kq1114, q1114a, q1114b, q1114c⟩ := isOf hZ39 e346_1110 Fj346_1110_3
  obtain ⟨_, _, ⟨T1114, L1114, k1114, n1114⟩, -, X1114, ⟨Lc1114, hQ1114, l1114, y1114, z1114⟩, st1114⟩ := X346_1110.virtualBack hx (y := (⟨own_CO, "size", "()I"⟩ : MethodName)) (z := (⟨own_CO, "size", "()I"⟩ : MethodName)) hown39 (mvT hZ39 (own_w222 hw)) (mvT hZ39 (own_w223 hw)) (notFace_of_selects (args := #[]) (mvT hZ39 (own_w225 hw))) (mvT hZ39 (own_w225 hw)) (mvT hZ39 (own_w224 hw)) (by decide) (backOf (W := 0) (rm28 l Z a0 hw [] z0_1046 (Int32.ofNat sj289_1061.2.1) hj346_1110 n0 Zq1114 Fj346_1110_16) hZ39 (own_w226 hw) (own_w148 hw) (by decide) (by decide)) q1114a q1114c (g := (own_G m i0 i1 i2 i3 i4 vb nn vk b5 b8 b11 ru rv rx b35 b37 (.val (.ref z0_1046)) (.val (.int (nn + (16 : Int32)))) .unset 396 [(.ref z0_1046)])) rfl (by rw [hml]; rfl) (Steps.refl _) (argsL := []) (rest := []) (lenOf pd_8 rfl) rfl (by show 2 * 0 + _ ≤ _; exact Nat.le_of_eq rfl) (hb hby at_396) (fun _ _ => ⟨rfl, e346_1110, (by decide : 34 + 0 ≤ _), (by decide : 262 + 0 ≤ _)⟩)
  dsimp only [Pt.U, Pt.locs, Pt.cells, Pt.slots] at X1114 l1114 y1114 z1114 st1114 hQ1114
  subst l1114 y1114 z1114
  obtain ⟨rfl, rfl, e1114⟩ := hQ1114
  try rw [List.append_nil] at X1114
  refine own_jumpW (f' := (own_G m i0 i1 i2 i3 i4 vb nn vk b5 b8 b11 ru rv rx b35 b37 (.val (.ref z0_1046)) (.val (.int (nn + (16 : Int32)))) .unset 399 [(.int (Int32.ofNat sj289_1061.2.1))])) st1114 ?_
  refine own_stepW (f' := (own_G m i0 i1 i2 i3 i4 vb nn vk b5 b8 b11 ru rv rx b35 b37 (.val (.ref z0_1046)) (.val (.int (nn + (16 : Int32)))) .unset 401 [(.int (nn + (16 : Int32))), (.int (Int32.ofNat sj289_1061.2.1))])) (fun _ k => XS.iload X1114.here hx rfl (hb hby at_399) rfl k) ?_
  have hf401_1115 : (Int32.ofNat sj289_1061.2.1) = (nn + (16 : Int32)) := (by rw [hk, hn] <;> decide)
  refine own_stepW (f' := (own_G m i0 i1 i2 i3 i4 vb nn vk b5 b8 b11 ru rv rx b35 b37 (.val (.ref z0_1046)) (.val (.int (nn + (16 : Int32)))) .unset 404 [])) (fun _ k => XS.icmpNo X1114.here hx rfl (hb hby at_401) rfl (teq hf401_1115).2 k) ?_
  refine own_stepW (f' := (own_G m i0 i1 i2 i3 i4 vb nn vk b5 b8 b11 ru rv rx b35 b37 (.val (.ref z0_1046)) (.val (.int (nn + (16 : Int32)))) .unset 406 [(.int nn)])) (fun _ k => XS.iload X1114.here hx rfl (hb hby at_404) rfl k) ?_
  refine own_stepW (f' := (own_G m i0 i1 i2 i3 i4 vb nn vk b5 b8 b11 ru rv rx b35 b37 (.val (.ref z0_1046)) (.val (.int (nn + (16 : Int32)))) .unset 407 [(.int (1 : Int32)), (.int nn)])) (fun _ k => XS.iconst X1114.here hx rfl (hb hby at_406) k) ?_
  have hf407_1116 : nn < (1 : Int32) := (by rw [hn] <;> decide)
  refine own_stepW (f' := (own_G m i0 i1 i2 i3 i4 vb nn vk b5 b8 b11 ru rv rx b35 b37 (.val (.ref z0_1046)) (.val (.int (nn + (16 : Int32)))) .unset 423 [])) (fun _ k => XS.icmpYes X1114.here hx rfl (pc0 := 407) (pc' := 423) rfl (hb hby at_407) rfl (tlt hf407_1116).1 (by decide) (by decide) k) ?_
  refine own_stepW (f' := (own_G m i0 i1 i2 i3 i4 vb nn vk b5 b8 b11 ru rv rx b35 b37 (.val (.ref z0_1046)) (.val (.int (nn + (16 : Int32)))) .unset 425 [(.int nn)])) (fun _ k => XS.iload X1114.here hx rfl (hb hby at_423) rfl k) ?_
  refine own_stepW (f' := (own_G m i0 i1 i2 i3 i4 vb nn vk b5 b8 b11 ru rv rx b35 b37 (.val (.ref z0_1046)) (.val (.int (nn + (16 : Int32)))) .unset 426 [(.int (2 : Int32)), (.int nn)])) (fun _ k => XS.iconst X1114.here hx rfl (hb hby at_425) k) ?_
  have hf426_1117 : nn < (2 : Int32) := (by rw [hn] <;> decide)
  refine own_stepW (f' := (own_G m i0 i1 i2 i3 i4 vb nn vk b5 b8 b11 ru rv rx b35 b37 (.val (.ref z0_1046)) (.val (.int (nn + (16 : Int32)))) .unset 442 [])) (fun _ k => XS.icmpYes X1114.here hx rfl (pc0 := 426) (pc' := 442) rfl (hb hby at_426) rfl (tlt hf426_1117).1 (by decide) (by decide) k) ?_
  refine own_stepW (f' := (own_G m i0 i1 i2 i3 i4 vb nn vk b5 b8 b11 ru rv rx b35 b37 (.val (.ref z0_1046)) (.val (.int (nn + (16 : Int32)))) .unset 444 [(.int nn)])) (fun _ k => XS.iload X1114.here hx rfl (hb hby at_442) rfl k) ?_
  refine own_stepW (f' := (own_G m i0 i1 i2 i3 i4 vb nn vk b5 b8 b11 ru rv rx b35 b37 (.val (.ref z0_1046)) (.val (.int (nn + (16 : Int32)))) .unset 445 [(.int (3 : Int32)), (.int nn)])) (fun _ k => XS.iconst X1114.here hx rfl (hb hby at_444) k) ?_
  have hf445_1118 : nn < (3 : Int32) := (by rw [hn] <;> decide)
  refine own_stepW (f' := (own_G m i0 i1 i2 i3 i4 vb nn vk b5 b8 b11 ru rv rx b35 b37 (.val (.ref z0_1046)) (.val (.int (nn + (16 : Int32)))) .unset 461 [])) (fun _ k => XS.icmpYes X1114.here hx rfl (pc0 := 445) (pc' := 461) rfl (hb hby at_445) rfl (tlt hf445_1118).1 (by decide) (by decide) k) ?_
  refine own_stepW (f' := (own_G m i0 i1 i2 i3 i4 vb nn vk b5 b8 b11 ru rv rx b35 b37 (.val (.ref z0_1046)) (.val (.int (nn + (16 : Int32)))) .unset 463 [(.int vk)])) (fun _ k => XS.iload X1114.here hx rfl (hb hby at_461) rfl k) ?_
  have hf463_1119 : ¬ (vk = (0 : Int32)) := (by rw [hbk] <;> decide)
  refine own_stepW (f' := (own_G m i0 i1 i2 i3 i4 vb nn vk b5 b8 b11 ru rv rx b35 b37 (.val (.ref z0_1046)) (.val (.int (nn + (16 : Int32)))) .unset 466 [])) (fun _ k => XS.ifNo X1114.here hx rfl (hb hby at_463) rfl ((if0 _ _).trans (feq hf463_1119).1) k) ?_
  refine own_stepW (f' := (own_G m i0 i1 i2 i3 i4 vb nn vk b5 b8 b11 ru rv rx b35 b37 (.val (.ref z0_1046)) (.val (.int (nn + (16 : Int32)))) .unset 468 [(.ref z0_1046)])) (fun _ k => XS.aload X1114.here hx rfl (hb hby at_466) rfl rfl k) ?_
  refine own_stepW (f' := (own_G m i0 i1 i2 i3 i4 vb nn vk b5 b8 b11 ru rv rx b35 b37 (.val (.ref z0_1046)) (.val (.int (nn + (16 : Int32)))) .unset 469 [(.int (0 : Int32)), (.ref z0_1046)])) (fun _ k => XS.iconst X1114.here hx rfl (hb hby at_468) k) ?_
  refine own_stepW (f' := (own_G m i0 i1 i2 i3 i4 vb nn vk b5 b8 b11 ru rv rx b35 b37 (.val (.ref z0_1046)) (.val (.int (nn + (16 : Int32)))) .unset 471 [(.ref b5), (.int (0 : Int32)), (.ref z0_1046)])) (fun _ k => XS.aload X1114.here hx rfl (hb hby at_469) rfl rfl k) ?_
  refine own_stepW (f' := (own_G m i0 i1 i2 i3 i4 vb nn vk b5 b8 b11 ru rv rx b35 b37 (.val (.ref z0_1046)) (.val (.int (nn + (16 : Int32)))) .unset 473 [ru, (.ref b5), (.int (0 : Int32)), (.ref z0_1046)])) (fun _ k => XS.aload X1114.here hx rfl (hb hby at_471) rfl hr_ru k) ?_
  have hp1120_hj : ¬ (0 : Int32) < (0 : Int32) ∧ (0 : Int32) < (16 : Int32) := ⟨by decide, by decide⟩
  have hp1120_hq1 : sj289_1061.2.2.1.getD (0 : Int32).toNatClampNeg .null = .ref b5 := pz0
  have hp1120_hq2 : sj289_1061.2.2.2.getD (0 : Int32).toNatClampNeg .null = ru := qz0
  have Zq1120 : n0 ≤ hj346_1110.size := Zj346_1110
  obtain ⟨_, _, ⟨T1120, L1120, k1120, n1120⟩, -, X1120, ⟨Lc1120, hQ1120, l1120, y1120, z1120⟩, st1120⟩ := Jvm.LawKit.callS X1114 hx (y := (⟨"com/example/valbonne/valbonne/codec/AttributeCodingsAddPinLaw", "at", "(Lcom/example/valbonne/valbonne/codec/AttributeCodings$Coding;ILcom/example/valbonne/valbonne/codec/Name;Ljava/lang/String;)Z"⟩ : MethodName)) hown39 (mvT hZ39 (own_w227 hw)) (mvT hZ39 (own_w228 hw)) (mvT hZ39 (own_w229 hw)) (mvT hZ39 (own_w230 hw)) (by decide) (backOf (W := 0) (rm29 l Z a0 hw [] z0_1046 (0 : Int32) b5 ru y2_1046 ky2_1046 sj289_1061.2.2.1 y3_1046 ky3_1046 sj289_1061.2.2.2 hj346_1110 n0 Zq1120 Fj346_1110_0 Fj346_1110_3 Fj346_1110_14 Fj346_1110_6 Fj346_1110_15 Fj346_1110_7 hp1120_hj hp1120_hq1 hp1120_hq2) hZ39 (own_w230 hw) (own_w229 hw) (by decide) (by decide)) (g := (own_G m i0 i1 i2 i3 i4 vb nn vk b5 b8 b11 ru rv rx b35 b37 (.val (.ref z0_1046)) (.val (.int (nn + (16 : Int32)))) .unset 473 [ru, (.ref b5), (.int (0 : Int32)), (.ref z0_1046)])) rfl (by rw [hml]; rfl) (argsL := [(.ref z0_1046), (.int (0 : Int32)), (.ref b5), ru]) (rest := []) (lenOf pd_26 rfl) rfl (by show 2 * 0 + _ ≤ _; exact Nat.le_of_eq rfl) (hb hby at_473) (fun _ _ => ⟨rfl, e1114, (by decide : 34 + 0 ≤ _), (by decide : 262 + 0 ≤ _)⟩)
  dsimp only [Pt.U, Pt.locs, Pt.cells, Pt.slots] at X1120 l1120 y1120 z1120 st1120 hQ1120
  subst l1120 y1120 z1120
  obtain ⟨rfl, rfl, e1120⟩ := hQ1120
  try rw [List.append_nil] at X1120
  refine own_stepW (f' := (own_G m i0 i1 i2 i3 i4 vb nn vk b5 b8 b11 ru rv rx b35 b37 (.val (.ref z0_1046)) (.val (.int (nn + (16 : Int32)))) .unset 476 [(.int (1 : Int32))])) st1120 ?_
  refine own_stepW (f' := (own_G m i0 i1 i2 i3 i4 vb nn vk b5 b8 b11 ru rv rx b35 b37 (.val (.ref z0_1046)) (.val (.int (nn + (16 : Int32)))) .unset 479 [])) (fun _ k => XS.ifNo X1120.here hx rfl (hb hby at_476) rfl ((if0 _ _).trans (feq (by decide : ¬ ((1 : Int32) = (0 : Int32)))).1) k) ?_
  refine own_stepW (f' := (own_G m i0 i1 i2 i3 i4 vb nn vk b5 b8 b11 ru rv rx b35 b37 (.val (.ref z0_1046)) (.val (.int (nn + (16 : Int32)))) .unset 481 [(.ref z0_1046)])) (fun _ k => XS.aload X1120.here hx rfl (hb hby at_479) rfl rfl k) ?_
  refine own_stepW (f' := (own_G m i0 i1 i2 i3 i4 vb nn vk b5 b8 b11 ru rv rx b35 b37 (.val (.ref z0_1046)) (.val (.int (nn + (16 : Int32)))) .unset 483 [(.int (7 : Int32)), (.ref z0_1046)])) (fun _ k => XS.bipush X1120.here hx rfl (hb hby at_481) k) ?_
  refine own_stepW (f' := (own_G m i0 i1 i2 i3 i4 vb nn vk b5 b8 b11 ru rv rx b35 b37 (.val (.ref z0_1046)) (.val (.int (nn + (16 : Int32)))) .unset 485 [(.ref b5), (.int (7 : Int32)), (.ref z0_1046)])) (fun _ k => XS.aload X1120.here hx rfl (hb hby at_483) rfl rfl k) ?_
  refine own_stepW (f' := (own_G m i0 i1 i2 i3 i4 vb nn vk b5 b8 b11 ru rv rx b35 b37 (.val (.ref z0_1046)) (.val (.int (nn + (16 : Int32)))) .unset 487 [ru, (.ref b5), (.int (7 : Int32)), (.ref z0_1046)])) (fun _ k => XS.aload X1120.here hx rfl (hb hby at_485) rfl hr_ru k) ?_
  have hp1121_hj : ¬ (7 : Int32) < (0 : Int32) ∧ (7 : Int32) < (16 : Int32) := ⟨by decide, by decide⟩
  have hp1121_hq1 : sj289_1061.2.2.1.getD (7 : Int32).toNatClampNeg .null = .ref b5 := pz7
  have hp1121_hq2 : sj289_1061.2.2.2.getD (7 : Int32).toNatClampNeg .null = ru := qz7
  have Zq1121 : n0 ≤ hj346_1110.size := Zj346_1110
  obtain ⟨_, _, ⟨T1121, L1121, k1121, n1121⟩, -, X1121, ⟨Lc1121, hQ1121, l1121, y1121, z1121⟩, st1121⟩ := Jvm.LawKit.callS X1120 hx (y := (⟨"com/example/valbonne/valbonne/codec/AttributeCodingsAddPinLaw", "at", "(Lcom/example/valbonne/valbonne/codec/AttributeCodings$Coding;ILcom/example/valbonne/valbonne/codec/Name;Ljava/lang/String;)Z"⟩ : MethodName)) hown39 (mvT hZ39 (own_w227 hw)) (mvT hZ39 (own_w228 hw)) (mvT hZ39 (own_w229 hw)) (mvT hZ39 (own_w230 hw)) (by decide) (backOf (W := 0) (rm29 l Z a0 hw [] z0_1046 (7 : Int32) b5 ru y2_1046 ky2_1046 sj289_1061.2.2.1 y3_1046 ky3_1046 sj289_1061.2.2.2 hj346_1110 n0 Zq1121 Fj346_1110_0 Fj346_1110_3 Fj346_1110_14 Fj346_1110_6 Fj346_1110_15 Fj346_1110_7 hp1121_hj hp1121_hq1 hp1121_hq2) hZ39 (own_w230 hw) (own_w229 hw) (by decide) (by decide)) (g := (own_G m i0 i1 i2 i3 i4 vb nn vk b5 b8 b11 ru rv rx b35 b37 (.val (.ref z0_1046)) (.val (.int (nn + (16 : Int32)))) .unset 487 [ru, (.ref b5), (.int (7 : Int32)), (.ref z0_1046)])) rfl (by rw [hml]; rfl) (argsL := [(.ref z0_1046), (.int (7 : Int32)), (.ref b5), ru]) (rest := []) (lenOf pd_26 rfl) rfl (by show 2 * 0 + _ ≤ _; exact Nat.le_of_eq rfl) (hb hby at_487) (fun _ _ => ⟨rfl, e1120, (by decide : 34 + 0 ≤ _), (by decide : 262 + 0 ≤ _)⟩)
  dsimp only [Pt.U, Pt.locs, Pt.cells, Pt.slots] at X1121 l1121 y1121 z1121 st1121 hQ1121
  subst l1121 y1121 z1121
  obtain ⟨rfl, rfl, e1121⟩ := hQ1121
  try rw [List.append_nil] at X1121
  refine own_stepW (f' := (own_G m i0 i1 i2 i3 i4 vb nn vk b5 b8 b11 ru rv rx b35 b37 (.val (.ref z0_1046)) (.val (.int (nn + (16 : Int32)))) .unset 490 [(.int (1 : Int32))])) st1121 ?_
  refine own_stepW (f' := (own_G m i0 i1 i2 i3 i4 vb nn vk b5 b8 b11 ru rv rx b35 b37 (.val (.ref z0_1046)) (.val (.int (nn + (16 : Int32)))) .unset 493 [])) (fun _ k => XS.ifNo X1121.here hx rfl (hb hby at_490) rfl ((if0 _ _).trans (feq (by decide : ¬ ((1 : Int32) = (0 : Int32)))).1) k) ?_
  refine own_stepW (f' := (own_G m i0 i1 i2 i3 i4 vb nn vk b5 b8 b11 ru rv rx b35 b37 (.val (.ref z0_1046)) (.val (.int (nn + (16 : Int32)))) .unset 495 [(.ref z0_1046)])) (fun _ k => XS.aload X1121.here hx rfl (hb hby at_493) rfl rfl k) ?_
  refine own_stepW (f' := (own_G m i0 i1 i2 i3 i4 vb nn vk b5 b8 b11 ru rv rx b35 b37 (.val (.ref z0_1046)) (.val (.int (nn + (16 : Int32)))) .unset 497 [(.int (15 : Int32)), (.ref z0_1046)])) (fun _ k => XS.bipush X1121.here hx rfl (hb hby at_495) k) ?_
  refine own_stepW (f' := (own_G m i0 i1 i2 i3 i4 vb nn vk b5 b8 b11 ru rv rx b35 b37 (.val (.ref z0_1046)) (.val (.int (nn + (16 : Int32)))) .unset 499 [(.ref b5), (.int (15 : Int32)), (.ref z0_1046)])) (fun _ k => XS.aload X1121.here hx rfl (hb hby at_497) rfl rfl k) ?_
  refine own_stepW (f' := (own_G m i0 i1 i2 i3 i4 vb nn vk b5 b8 b11 ru rv rx b35 b37 (.val (.ref z0_1046)) (.val (.int (nn + (16 : Int32)))) .unset 501 [ru, (.ref b5), (.int (15 : Int32)), (.ref z0_1046)])) (fun _ k => XS.aload X1121.here hx rfl (hb hby at_499) rfl hr_ru k) ?_
  have hp1122_hj : ¬ (15 : Int32) < (0 : Int32) ∧ (15 : Int32) < (16 : Int32) := ⟨by decide, by decide⟩
  have hp1122_hq1 : sj289_1061.2.2.1.getD (15 : Int32).toNatClampNeg .null = .ref b5 := pz15
  have hp1122_hq2 : sj289_1061.2.2.2.getD (15 : Int32).toNatClampNeg .null = ru := qz15
  have Zq1122 : n0 ≤ hj346_1110.size := Zj346_1110
  obtain ⟨_, _, ⟨T1122, L1122, k1122, n1122⟩, -, X1122, ⟨Lc1122, hQ1122, l1122, y1122, z1122⟩, st1122⟩ := Jvm.LawKit.callS X1121 hx (y := (⟨"com/example/valbonne/valbonne/codec/AttributeCodingsAddPinLaw", "at", "(Lcom/example/valbonne/valbonne/codec/AttributeCodings$Coding;ILcom/example/valbonne/valbonne/codec/Name;Ljava/lang/String;)Z"⟩ : MethodName)) hown39 (mvT hZ39 (own_w227 hw)) (mvT hZ39 (own_w228 hw)) (mvT hZ39 (own_w229 hw)) (mvT hZ39 (own_w230 hw)) (by decide) (backOf (W := 0) (rm29 l Z a0 hw [] z0_1046 (15 : Int32) b5 ru y2_1046 ky2_1046 sj289_1061.2.2.1 y3_1046 ky3_1046 sj289_1061.2.2.2 hj346_1110 n0 Zq1122 Fj346_1110_0 Fj346_1110_3 Fj346_1110_14 Fj346_1110_6 Fj346_1110_15 Fj346_1110_7 hp1122_hj hp1122_hq1 hp1122_hq2) hZ39 (own_w230 hw) (own_w229 hw) (by decide) (by decide)) (g := (own_G m i0 i1 i2 i3 i4 vb nn vk b5 b8 b11 ru rv rx b35 b37 (.val (.ref z0_1046)) (.val (.int (nn + (16 : Int32)))) .unset 501 [ru, (.ref b5), (.int (15 : Int32)), (.ref z0_1046)])) rfl (by rw [hml]; rfl) (argsL := [(.ref z0_1046), (.int (15 : Int32)), (.ref b5), ru]) (rest := []) (lenOf pd_26 rfl) rfl (by show 2 * 0 + _ ≤ _; exact Nat.le_of_eq rfl) (hb hby at_501) (fun _ _ => ⟨rfl, e1121, (by decide : 34 + 0 ≤ _), (by decide : 262 + 0 ≤ _)⟩)
  dsimp only [Pt.U, Pt.locs, Pt.cells, Pt.slots] at X1122 l1122 y1122 z1122 st1122 hQ1122
  subst l1122 y1122 z1122
  obtain ⟨rfl, rfl, e1122⟩ := hQ1122
  try rw [List.append_nil] at X1122
  refine own_stepW (f' := (own_G m i0 i1 i2 i3 i4 vb nn vk b5 b8 b11 ru rv rx b35 b37 (.val (.ref z0_1046)) (.val (.int (nn + (16 : Int32)))) .unset 504 [(.int (1 : Int32))])) st1122 ?_
  refine own_stepW (f' := (own_G m i0 i1 i2 i3 i4 vb nn vk b5 b8 b11 ru rv rx b35 b37 (.val (.ref z0_1046)) (.val (.int (nn + (16 : Int32)))) .unset 507 [])) (fun _ k => XS.ifNo X1122.here hx rfl (hb hby at_504) rfl ((if0 _ _).trans (feq (by decide : ¬ ((1 : Int32) = (0 : Int32)))).1) k) ?_
  refine own_stepW (f' := (own_G m i0 i1 i2 i3 i4 vb nn vk b5 b8 b11 ru rv rx b35 b37 (.val (.ref z0_1046)) (.val (.int (nn + (16 : Int32)))) .unset 508 [(.int (1 : Int32))])) (fun _ k => XS.iconst X1122.here hx rfl (hb hby at_507) k) ?_
  refine own_stepW (f' := (own_G m i0 i1 i2 i3 i4 vb nn vk b5 b8 b11 ru rv rx b35 b37 (.val (.ref z0_1046)) (.val (.int (nn + (16 : Int32)))) .unset 512 [(.int (1 : Int32))])) (fun _ k => XS.goto X1122.here hx rfl (pc0 := 508) (pc' := 512) rfl (hb hby at_508) (by decide) (by decide) k) ?_
  refine own_stepW (f' := (own_G m i0 i1 i2 i3 i4 vb nn vk b5 b8 b11 ru rv rx b35 b37 (.val (.ref z0_1046)) (.val (.int (nn + (16 : Int32)))) (.val (.int (1 : Int32))) 514 [])) (fun _ k => XS.istore X1122.here hx rfl (hb hby at_512) rfl (l' := #[.val (.int i0), .val (.int i1), .val (.int i2), .val (.int i3), .val (.int i4), .val (.int vb), .val (.int nn), .val (.int vk), .val (.ref b5), .val (.ref b8), .val (.ref b11), .val ru, .val rv, .val rx, .val (.ref b35), .val (.ref b37), .val (.ref z0_1046), .val (.int (nn + (16 : Int32))), .val (.int (1 : Int32))]) rfl k) ?_
  refine own_stepW (f' := (own_G m i0 i1 i2 i3 i4 vb nn vk b5 b8 b11 ru rv rx b35 b37 (.val (.ref z0_1046)) (.val (.int (nn + (16 : Int32)))) (.val (.int (1 : Int32))) 516 [(.int (1 : Int32))])) (fun _ k => XS.iload X1122.here hx rfl (hb hby at_514) rfl k) ?_
  refine own_outW (v := some (.int (1 : Int32))) X1122 hS39 (by rw [e1122]; exact Ws346_1110) hlk (fun h => by rw [hret] at h; cases h) (fun fs hr => retN X1122 hx (t := .boolean) hret (by simp) (hb hby at_516) hr) (by decide) (by decide) ?_
  exact ⟨rfl, N346_1110⟩
set_option maxRecDepth 65536 in
set_option maxHeartbeats 40000000 in
theorem own_J289_1061 (l : Launch) (Z : State) (a0 : Array Value) (hw : own_HW a0 Z) (h0 : Heap) (n0 : Nat) (p : Program) (e : Env) (s : State) (m : MethodId) (below : List Frame) (meth : Method) (c : Code) (hx : p.tables.exec = Jvm.exec) (hby : c.code = code) (hlk : meth.locks = false) (hml : c.maxLocals = 19) (hown0 : s.vm.findClass "com/example/valbonne/valbonne/codec/AttributeCodingsAddPinLaw" = some m.cls) (hZ0 : Z.Warmed39 s.vm) (hret : meth.sig.returnType = some .boolean) (i0 : Int32) (i1 : Int32) (i2 : Int32) (i3 : Int32) (i4 : Int32) (cz : Int32) (vb : Int32) (nn : Int32) (vk : Int32) (b5 : Addr) (b6 : Addr) (b8 : Addr) (b9 : Addr) (b11 : Addr) (b12 : Addr) (ru : Value) (rv : Value) (rx : Value) (b35 : Addr) (y1_36 : Addr) (ky1_36 : ClassId) (b37 : Addr) (b38 : Addr) (k38 : ClassId) (T39 : State) (z0_1046 : Addr) (y1_1046 : Addr) (ky1_1046 : ClassId) (y2_1046 : Addr) (ky2_1046 : ClassId) (y3_1046 : Addr) (ky3_1046 : ClassId) (sj245_1049 : own_St) (sj260_1052 : own_St) (sj275_1055 : own_St) (hr_ru : ru.isRef = true) (hr_rv : rv.isRef = true) (hr_rx : rx.isRef = true) (ne_b35_b37 : b35 ≠ b37) (g_b37 : n0 ≤ b37) (hZ39 : Z.Warmed39 (s.setVm T39.vm).vm) (hown39 : (s.setVm T39.vm).vm.findClass "com/example/valbonne/valbonne/codec/AttributeCodingsAddPinLaw" = some m.cls) (hS39 : s.Since T39.vm T39.heap.size) (hb24 : vk = (0 : Int32) ∨ vk = (1 : Int32)) (hn4 : nn = (0 : Int32) ∨ nn = (1 : Int32) ∨ nn = (2 : Int32) ∨ nn = (3 : Int32)) (hbeg : vb = (1 : Int32)) (ne_b38_z0_1046 : b38 ≠ z0_1046) (ne_b37_z0_1046 : b37 ≠ z0_1046) (ne_b38_y1_1046 : b38 ≠ y1_1046) (ne_b37_y1_1046 : b37 ≠ y1_1046) (ne_b37_y2_1046 : b37 ≠ y2_1046) (ne_b37_y3_1046 : b37 ≠ y3_1046) (hD : own_Dis Z n0 b35 y1_36 z0_1046 y1_1046 y2_1046 y3_1046 ky1_36 ky1_1046 ky2_1046 ky3_1046) (hv245_1049_0 : sj245_1049 = (if (0 : Int32) < nn then (own_add own_s0 b5 ru) else own_s0)) (hv260_1052_0 : sj260_1052 = (if (1 : Int32) < nn then (own_add sj245_1049 b8 rv) else sj245_1049)) (hv275_1055_0 : sj275_1055 = (if (2 : Int32) < nn then (own_add sj260_1052 b11 rx) else sj260_1052)) : ∀ (T289_1061 : State) (hj289_1061 : Heap) (Lj289_1061 : List Loc) (sj289_1061 : own_St), (Stand p l e room_1 (s.setVm T39.vm) m #[(.int i0), (.int i1), (.int i2), (.int i3), (.int i4)] below meth c T289_1061 Lj289_1061 34 262) → (T289_1061.heap = hj289_1061) → (Fr n0 Lj289_1061) → (n0 ≤ hj289_1061.size) → (T39.heap.size ≤ hj289_1061.size) → (Exa Z hj289_1061 b5 own_NM) → (Exa Z hj289_1061 b6 "java/lang/String") → (Exa Z hj289_1061 b8 own_NM) → (Exa Z hj289_1061 b9 "java/lang/String") → (Exa Z hj289_1061 b11 own_NM) → (Exa Z hj289_1061 b12 "java/lang/String") → (own_Opt Z hj289_1061 ru "java/lang/String") → (own_Opt Z hj289_1061 rv "java/lang/String") → (own_Opt Z hj289_1061 rx "java/lang/String") → (Exa Z hj289_1061 b35 own_AC) → (Exa Z hj289_1061 b37 own_SI) → (Arv Z hj289_1061 b38 k38 .byte (0 : Int32) [] (.int (0 : Int32))) → (Fld Z hj289_1061 b37 own_SI "bytes" "[B" (.ref b38)) → (Fld Z hj289_1061 b37 own_SI "limit" "I" (.int (0 : Int32))) → (Fld Z hj289_1061 b37 own_SI "pos" "I" (.int (0 : Int32))) → (Fld Z hj289_1061 b37 own_SI "offset" "J" (.long (0 : Int64))) → (Fld Z hj289_1061 b37 own_SI "attributePage" "I" (.int (0 : Int32))) → (Exa Z hj289_1061 z0_1046 own_CO) → (sj289_1061 = (if vk = (0 : Int32) then sj275_1055 else (own_four (own_four (own_four (own_four sj275_1055 b5 ru) b5 ru) b5 ru) b5 ru))) → (own_Inv Z hj289_1061 b35 y1_36 z0_1046 y1_1046 y2_1046 y3_1046 ky1_36 ky1_1046 ky2_1046 ky3_1046 sj289_1061) → own_GoesW p e below s (Q0 Z i0 i1 i2 i3 i4 cz h0 n0) room_1.cells room_1.slots T289_1061 (own_G m i0 i1 i2 i3 i4 vb nn vk b5 b8 b11 ru rv rx b35 b37 .unset .unset .unset 328 []) := by
  have hown := hown0
  have hZ := hZ0
  intro T289_1061 hj289_1061 Lj289_1061 sj289_1061 X289_1061 e289_1061 N289_1061 Zj289_1061 Ws289_1061 Fj289_1061_0 Fj289_1061_1 Fj289_1061_2 Fj289_1061_3 Fj289_1061_4 Fj289_1061_5 Fj289_1061_6 Fj289_1061_7 Fj289_1061_8 Fj289_1061_9 Fj289_1061_11 Fj289_1061_12 Fj289_1061_13 Fj289_1061_14 Fj289_1061_15 Fj289_1061_16 Fj289_1061_17 Fj289_1061_18 hv289_1061_0 hv289_1061_1
  have hr_ru : ru.isRef = true := Fj289_1061_6.isR
  have hr_rv : rv.isRef = true := Fj289_1061_7.isR
  have hr_rx : rx.isRef = true := Fj289_1061_8.isR
  rcases own_fin hn4 hb24 hv245_1049_0 hv260_1052_0 hv275_1055_0 hv289_1061_0 with ⟨hr, hcs⟩ | ⟨hr, hcs, hbk⟩
  · obtain ⟨U0, U1, U2, U3, U4, U5, U6, U7, U8, U9, U10, U11, U12, U13, U14, U15, U16, U17, U18, U19, Uk, Un, Uw⟩ := hv289_1061_1
    obtain ⟨Ud0, Ud1, Ud2, Ud3, Ud4, Ud5, Ud6, Ud7, Ud8, Ud9, Ud10, Ud11, Ud12, Ud13, Ud14, Ud15, Ud16, Ud17, Ud18, Ud19, Ud20, Ud21⟩ := hD
    have U4 : Fld Z hj289_1061 b35 own_AC "reading" "Lcom/example/valbonne/valbonne/codec/AttributeCodings$Coding;" (.ref z0_1046) := by rw [hr] at U4; exact U4
    have U14 : Fld Z hj289_1061 z0_1046 own_CO "size" "I" (.int (Int32.ofNat sj289_1061.2.1)) := U14
    have U18 : Arv Z hj289_1061 y2_1046 ky2_1046 (.object own_NM) (16 : Int32) sj289_1061.2.2.1 .null := U18
    have U19 : Arv Z hj289_1061 y3_1046 ky3_1046 (.object "java/lang/String") (16 : Int32) sj289_1061.2.2.2 .null := U19
    refine own_stepW (f' := (own_G m i0 i1 i2 i3 i4 vb nn vk b5 b8 b11 ru rv rx b35 b37 .unset .unset .unset 330 [(.ref b35)])) (fun _ k => XS.aload X289_1061.here hx rfl (hb hby at_328) rfl rfl k) ?_
    refine own_stepW (f' := (own_G m i0 i1 i2 i3 i4 vb nn vk b5 b8 b11 ru rv rx b35 b37 .unset .unset .unset 332 [(.ref b37), (.ref b35)])) (fun _ k => XS.aload X289_1061.here hx rfl (hb hby at_330) rfl rfl k) ?_
    have Zq1062 : n0 ≤ hj289_1061.size := Zj289_1061
    obtain ⟨cq1062, kq1062, q1062a, q1062b, q1062c⟩ := isOf hZ39 e289_1061 U0
    obtain ⟨_, _, ⟨T1062, L1062, k1062, n1062⟩, -, X1062, ⟨Lc1062, hQ1062, l1062, y1062, z1062⟩, st1062⟩ := X289_1061.virtualBack hx (y := (⟨own_AC, "end", "(Lcom/example/valbonne/valbonne/codec/StreamInput;)V"⟩ : MethodName)) (z := (⟨own_AC, "end", "(Lcom/example/valbonne/valbonne/codec/StreamInput;)V"⟩ : MethodName)) hown39 (mvT hZ39 (own_w110 hw)) (mvT hZ39 (own_w111 hw)) (notFace_of_selects (args := #[]) (mvT hZ39 (own_w113 hw))) (mvT hZ39 (own_w113 hw)) (mvT hZ39 (own_w112 hw)) (by decide) (backOf (W := 0) (rm15s l Z a0 hw [] b35 b37 y1_36 z0_1046 y1_1046 (.ref y2_1046) (.ref y3_1046) (Int32.ofNat sj289_1061.2.1) b38 k38 ky1_1046 hj289_1061 n0 Zq1062 U0 Ud0 Fj289_1061_11 Fj289_1061_15 Fj289_1061_16 U2 U3 U4 U5 U1 Ud1 Ud4 Ud6 Ud7 ne_b35_b37 (Ne.symm ne_b37_z0_1046) (Ne.symm ne_b37_y1_1046) Ud14 ne_b38_y1_1046 ne_b38_z0_1046 U6 U7 U8 U9 U10 U11 U12 U13 U14 U15 Fj289_1061_13 Fj289_1061_17 Fj289_1061_12 U17) hZ39 (own_w114 hw) (own_w60 hw) (by decide) (by decide)) q1062a q1062c (g := (own_G m i0 i1 i2 i3 i4 vb nn vk b5 b8 b11 ru rv rx b35 b37 .unset .unset .unset 332 [(.ref b37), (.ref b35)])) rfl (by rw [hml]; rfl) (Steps.refl _) (argsL := [(.ref b37)]) (rest := []) (lenOf pd_23 rfl) rfl (by show 2 * 0 + _ ≤ _; exact Nat.le_of_eq rfl) (hb hby at_332) (fun _ _ => ⟨rfl, e289_1061, (by decide : 34 + 0 ≤ _), (by decide : 262 + 0 ≤ _)⟩)
    dsimp only [Pt.U, Pt.locs, Pt.cells, Pt.slots] at X1062 l1062 y1062 z1062 st1062 hQ1062
    subst l1062 y1062 z1062
    obtain ⟨rfl, Nq1062, K1062, P1062_0, P1062_1, P1062_2, P1062_3, P1062_4, P1062_5, P1062_6, P1062_7, P1062_8, P1062_9, P1062_10, P1062_11, P1062_12, P1062_13⟩ := hQ1062
    obtain ⟨Lo1062, X1062, N1062⟩ : ∃ K, Stand p l e room_1 (s.setVm T39.vm) m #[(.int i0), (.int i1), (.int i2), (.int i3), (.int i4)] below meth c T1062 K 34 262 ∧ Fr n0 K := ⟨_, X1062, (Fr.app N289_1061 Nq1062)⟩
    refine own_jumpW (f' := (own_G m i0 i1 i2 i3 i4 vb nn vk b5 b8 b11 ru rv rx b35 b37 .unset .unset .unset 335 [])) st1062 ?_
    refine own_stepW (f' := (own_G m i0 i1 i2 i3 i4 vb nn vk b5 b8 b11 ru rv rx b35 b37 .unset .unset .unset 337 [(.ref b35)])) (fun _ k => XS.aload X1062.here hx rfl (hb hby at_335) rfl rfl k) ?_
    refine own_stepW (f' := (own_G m i0 i1 i2 i3 i4 vb nn vk b5 b8 b11 ru rv rx b35 b37 .unset .unset .unset 339 [(.ref b37), (.ref b35)])) (fun _ k => XS.aload X1062.here hx rfl (hb hby at_337) rfl rfl k) ?_
    refine own_stepW (f' := (own_G m i0 i1 i2 i3 i4 vb nn vk b5 b8 b11 ru rv rx b35 b37 .unset .unset .unset 340 [.null, (.ref b37), (.ref b35)])) (fun _ k => XS.aconstNull X1062.here hx rfl (hb hby at_339) k) ?_
    refine own_stepW (f' := (own_G m i0 i1 i2 i3 i4 vb nn vk b5 b8 b11 ru rv rx b35 b37 .unset .unset .unset 341 [(.int (1 : Int32)), .null, (.ref b37), (.ref b35)])) (fun _ k => XS.iconst X1062.here hx rfl (hb hby at_340) k) ?_
    have Zq1063 : n0 ≤ T1062.heap.size := (Nat.le_trans Zj289_1061 K1062.1)
    obtain ⟨cq1063, kq1063, q1063a, q1063b, q1063c⟩ := isOf hZ39 rfl (U0.keep K1062)
    obtain ⟨_, _, ⟨T1063, L1063, k1063, n1063⟩, -, X1063, ⟨Lc1063, hQ1063, l1063, y1063, z1063⟩, st1063⟩ := X1062.virtualBack hx (y := (⟨own_AC, "readKnown", "(Lcom/example/valbonne/valbonne/codec/StreamInput;Lcom/example/valbonne/valbonne/codec/DeclaredAttributes;Z)Lcom/example/valbonne/valbonne/codec/AttributeCodings$Coding;"⟩ : MethodName)) (z := (⟨own_AC, "readKnown", "(Lcom/example/valbonne/valbonne/codec/StreamInput;Lcom/example/valbonne/valbonne/codec/DeclaredAttributes;Z)Lcom/example/valbonne/valbonne/codec/AttributeCodings$Coding;"⟩ : MethodName)) hown39 (mvT hZ39 (own_w128 hw)) (mvT hZ39 (own_w129 hw)) (notFace_of_selects (args := #[]) (mvT hZ39 (own_w131 hw))) (mvT hZ39 (own_w131 hw)) (mvT hZ39 (own_w130 hw)) (by decide) (backOf (W := 0) (rm17y l Z a0 hw [] b35 b37 y1_36 ky1_36 z0_1046 y1_1046 T1062.heap n0 Zq1063 P1062_0 (Fj289_1061_11.keep K1062) (Fj289_1061_17.keep K1062 (ninS (Ne.symm ne_b35_b37) (ninS ne_b37_z0_1046 (ninS ne_b37_y1_1046 nin0)))) (U16.keep K1062 (ninS (Ne.symm Ud5) (ninS Ud10 (ninS Ud11 nin0)))) (U1.keep K1062) g_b37 (Ne.symm ne_b37_z0_1046) P1062_4 P1062_5 P1062_6 P1062_8 P1062_9 P1062_13 P1062_7 (Fj289_1061_14.keep K1062 (ninS (Ne.symm ne_b35_b37) (ninS ne_b37_z0_1046 (ninS ne_b37_y1_1046 nin0)))) (Fj289_1061_15.keep K1062 (ninS (Ne.symm ne_b35_b37) (ninS ne_b37_z0_1046 (ninS ne_b37_y1_1046 nin0))))) hZ39 (own_w132 hw) (own_w60 hw) (by decide) (by decide)) q1063a q1063c (g := (own_G m i0 i1 i2 i3 i4 vb nn vk b5 b8 b11 ru rv rx b35 b37 .unset .unset .unset 341 [(.int (1 : Int32)), .null, (.ref b37), (.ref b35)])) rfl (by rw [hml]; rfl) (Steps.refl _) (argsL := [(.ref b37), .null, (.int (1 : Int32))]) (rest := []) (lenOf pd_24 rfl) rfl (by show 2 * 0 + _ ≤ _; exact Nat.le_of_eq rfl) (hb hby at_341) (fun _ _ => ⟨rfl, rfl, (by decide : 34 + 0 ≤ _), (by decide : 262 + 0 ≤ _)⟩)
    dsimp only [Pt.U, Pt.locs, Pt.cells, Pt.slots] at X1063 l1063 y1063 z1063 st1063 hQ1063
    subst l1063 y1063 z1063
    obtain ⟨rfl, Nq1063, K1063⟩ := hQ1063
    obtain ⟨Lo1063, X1063, N1063⟩ : ∃ K, Stand p l e room_1 (s.setVm T39.vm) m #[(.int i0), (.int i1), (.int i2), (.int i3), (.int i4)] below meth c T1063 K 34 262 ∧ Fr n0 K := ⟨_, X1063, (Fr.app N1062 Nq1063)⟩
    refine own_jumpW (f' := (own_G m i0 i1 i2 i3 i4 vb nn vk b5 b8 b11 ru rv rx b35 b37 .unset .unset .unset 344 [(.ref z0_1046)])) st1063 ?_
    refine own_stepW (f' := (own_G m i0 i1 i2 i3 i4 vb nn vk b5 b8 b11 ru rv rx b35 b37 (.val (.ref z0_1046)) .unset .unset 346 [])) (fun _ k => XS.astore X1063.here hx rfl (hb hby at_344) rfl rfl (l' := #[.val (.int i0), .val (.int i1), .val (.int i2), .val (.int i3), .val (.int i4), .val (.int vb), .val (.int nn), .val (.int vk), .val (.ref b5), .val (.ref b8), .val (.ref b11), .val ru, .val rv, .val rx, .val (.ref b35), .val (.ref b37), .val (.ref z0_1046), .unset, .unset]) rfl k) ?_
    rcases hcs with ⟨hn, hbk, hk⟩ | ⟨hn, hbk, hk, pz0, qz0⟩ | ⟨hn, hbk, hk, pz0, qz0, pz1, qz1⟩ | ⟨hn, hbk, hk, pz0, qz0, pz1, qz1, pz2, qz2⟩ | ⟨hn, hbk, hk, pz0, qz0, pz7, qz7, pz15, qz15⟩
    · have J346_1064 := own_J346_1064 l Z a0 hw h0 n0 p e s m below meth c hx hby hlk hml hown0 hZ0 hret i0 i1 i2 i3 i4 cz vb nn vk b5 b8 b11 ru rv rx b35 b37 T39 z0_1046 y1_1046 y2_1046 ky2_1046 y3_1046 ky3_1046 sj289_1061 hr_ru hr_rv hr_rx hZ39 hown39 hS39 hbeg hn hbk hk
      exact J346_1064 _ T1063.heap _  (X1063.mono (by decide) (by decide)) rfl (N1063) ((Nat.le_trans (Nat.le_trans Zj289_1061 K1062.1) K1063.1))  ((Nat.le_trans (Nat.le_trans Ws289_1061 K1062.1) K1063.1)) (((Fj289_1061_6.keep K1062).keep K1063)) (((Fj289_1061_7.keep K1062).keep K1063)) (((Fj289_1061_8.keep K1062).keep K1063)) (((U1.keep K1062).keep K1063)) (((U18.keep K1062 (ninS (Ne.symm Ud8) (ninS (Ne.symm Ud15) (ninS (Ne.symm Ud17) nin0)))).keep K1063 (ninS (Ne.symm ne_b37_y2_1046) nin0))) (((U19.keep K1062 (ninS (Ne.symm Ud9) (ninS (Ne.symm Ud16) (ninS (Ne.symm Ud18) nin0)))).keep K1063 (ninS (Ne.symm ne_b37_y3_1046) nin0))) ((P1062_4.keep K1063 (ninS (Ne.symm ne_b37_z0_1046) nin0))) ((P1062_5.keep K1063 (ninS (Ne.symm ne_b37_z0_1046) nin0))) ((P1062_6.keep K1063 (ninS (Ne.symm ne_b37_z0_1046) nin0))) ((P1062_7.keep K1063 (ninS (Ne.symm ne_b37_z0_1046) nin0))) ((P1062_8.keep K1063 (ninS (Ne.symm ne_b37_z0_1046) nin0))) ((P1062_9.keep K1063 (ninS (Ne.symm ne_b37_z0_1046) nin0))) ((P1062_10.keep K1063 (ninS (Ne.symm ne_b37_z0_1046) nin0))) ((P1062_11.keep K1063 (ninS (Ne.symm ne_b37_z0_1046) nin0))) ((P1062_12.keep K1063 (ninS (Ne.symm ne_b37_z0_1046) nin0))) ((P1062_13.keep K1063 (ninS (Ne.symm ne_b37_z0_1046) nin0))) 
    · have J346_1074 := own_J346_1074 l Z a0 hw h0 n0 p e s m below meth c hx hby hlk hml hown0 hZ0 hret i0 i1 i2 i3 i4 cz vb nn vk b5 b8 b11 ru rv rx b35 b37 T39 z0_1046 y1_1046 y2_1046 ky2_1046 y3_1046 ky3_1046 sj289_1061 hr_ru hr_rv hr_rx hZ39 hown39 hS39 hbeg hn hbk hk pz0 qz0
      exact J346_1074 _ T1063.heap _  (X1063.mono (by decide) (by decide)) rfl (N1063) ((Nat.le_trans (Nat.le_trans Zj289_1061 K1062.1) K1063.1))  ((Nat.le_trans (Nat.le_trans Ws289_1061 K1062.1) K1063.1)) (((Fj289_1061_6.keep K1062).keep K1063)) (((Fj289_1061_7.keep K1062).keep K1063)) (((Fj289_1061_8.keep K1062).keep K1063)) (((U1.keep K1062).keep K1063)) (((U18.keep K1062 (ninS (Ne.symm Ud8) (ninS (Ne.symm Ud15) (ninS (Ne.symm Ud17) nin0)))).keep K1063 (ninS (Ne.symm ne_b37_y2_1046) nin0))) (((U19.keep K1062 (ninS (Ne.symm Ud9) (ninS (Ne.symm Ud16) (ninS (Ne.symm Ud18) nin0)))).keep K1063 (ninS (Ne.symm ne_b37_y3_1046) nin0))) ((P1062_4.keep K1063 (ninS (Ne.symm ne_b37_z0_1046) nin0))) ((P1062_5.keep K1063 (ninS (Ne.symm ne_b37_z0_1046) nin0))) ((P1062_6.keep K1063 (ninS (Ne.symm ne_b37_z0_1046) nin0))) ((P1062_7.keep K1063 (ninS (Ne.symm ne_b37_z0_1046) nin0))) ((P1062_8.keep K1063 (ninS (Ne.symm ne_b37_z0_1046) nin0))) ((P1062_9.keep K1063 (ninS (Ne.symm ne_b37_z0_1046) nin0))) ((P1062_10.keep K1063 (ninS (Ne.symm ne_b37_z0_1046) nin0))) ((P1062_11.keep K1063 (ninS (Ne.symm ne_b37_z0_1046) nin0))) ((P1062_12.keep K1063 (ninS (Ne.symm ne_b37_z0_1046) nin0))) ((P1062_13.keep K1063 (ninS (Ne.symm ne_b37_z0_1046) nin0))) 
    · have J346_1085 := own_J346_1085 l Z a0 hw h0 n0 p e s m below meth c hx hby hlk hml hown0 hZ0 hret i0 i1 i2 i3 i4 cz vb nn vk b5 b8 b11 ru rv rx b35 b37 T39 z0_1046 y1_1046 y2_1046 ky2_1046 y3_1046 ky3_1046 sj289_1061 hr_ru hr_rv hr_rx hZ39 hown39 hS39 hbeg hn hbk hk pz0 qz0 pz1 qz1
      exact J346_1085 _ T1063.heap _  (X1063.mono (by decide) (by decide)) rfl (N1063) ((Nat.le_trans (Nat.le_trans Zj289_1061 K1062.1) K1063.1))  ((Nat.le_trans (Nat.le_trans Ws289_1061 K1062.1) K1063.1)) (((Fj289_1061_6.keep K1062).keep K1063)) (((Fj289_1061_7.keep K1062).keep K1063)) (((Fj289_1061_8.keep K1062).keep K1063)) (((U1.keep K1062).keep K1063)) (((U18.keep K1062 (ninS (Ne.symm Ud8) (ninS (Ne.symm Ud15) (ninS (Ne.symm Ud17) nin0)))).keep K1063 (ninS (Ne.symm ne_b37_y2_1046) nin0))) (((U19.keep K1062 (ninS (Ne.symm Ud9) (ninS (Ne.symm Ud16) (ninS (Ne.symm Ud18) nin0)))).keep K1063 (ninS (Ne.symm ne_b37_y3_1046) nin0))) ((P1062_4.keep K1063 (ninS (Ne.symm ne_b37_z0_1046) nin0))) ((P1062_5.keep K1063 (ninS (Ne.symm ne_b37_z0_1046) nin0))) ((P1062_6.keep K1063 (ninS (Ne.symm ne_b37_z0_1046) nin0))) ((P1062_7.keep K1063 (ninS (Ne.symm ne_b37_z0_1046) nin0))) ((P1062_8.keep K1063 (ninS (Ne.symm ne_b37_z0_1046) nin0))) ((P1062_9.keep K1063 (ninS (Ne.symm ne_b37_z0_1046) nin0))) ((P1062_10.keep K1063 (ninS (Ne.symm ne_b37_z0_1046) nin0))) ((P1062_11.keep K1063 (ninS (Ne.symm ne_b37_z0_1046) nin0))) ((P1062_12.keep K1063 (ninS (Ne.symm ne_b37_z0_1046) nin0))) ((P1062_13.keep K1063 (ninS (Ne.symm ne_b37_z0_1046) nin0))) 
    · have J346_1097 := own_J346_1097 l Z a0 hw h0 n0 p e s m below meth c hx hby hlk hml hown0 hZ0 hret i0 i1 i2 i3 i4 cz vb nn vk b5 b8 b11 ru rv rx b35 b37 T39 z0_1046 y1_1046 y2_1046 ky2_1046 y3_1046 ky3_1046 sj289_1061 hr_ru hr_rv hr_rx hZ39 hown39 hS39 hbeg hn hbk hk pz0 qz0 pz1 qz1 pz2 qz2
      exact J346_1097 _ T1063.heap _  (X1063.mono (by decide) (by decide)) rfl (N1063) ((Nat.le_trans (Nat.le_trans Zj289_1061 K1062.1) K1063.1))  ((Nat.le_trans (Nat.le_trans Ws289_1061 K1062.1) K1063.1)) (((Fj289_1061_6.keep K1062).keep K1063)) (((Fj289_1061_7.keep K1062).keep K1063)) (((Fj289_1061_8.keep K1062).keep K1063)) (((U1.keep K1062).keep K1063)) (((U18.keep K1062 (ninS (Ne.symm Ud8) (ninS (Ne.symm Ud15) (ninS (Ne.symm Ud17) nin0)))).keep K1063 (ninS (Ne.symm ne_b37_y2_1046) nin0))) (((U19.keep K1062 (ninS (Ne.symm Ud9) (ninS (Ne.symm Ud16) (ninS (Ne.symm Ud18) nin0)))).keep K1063 (ninS (Ne.symm ne_b37_y3_1046) nin0))) ((P1062_4.keep K1063 (ninS (Ne.symm ne_b37_z0_1046) nin0))) ((P1062_5.keep K1063 (ninS (Ne.symm ne_b37_z0_1046) nin0))) ((P1062_6.keep K1063 (ninS (Ne.symm ne_b37_z0_1046) nin0))) ((P1062_7.keep K1063 (ninS (Ne.symm ne_b37_z0_1046) nin0))) ((P1062_8.keep K1063 (ninS (Ne.symm ne_b37_z0_1046) nin0))) ((P1062_9.keep K1063 (ninS (Ne.symm ne_b37_z0_1046) nin0))) ((P1062_10.keep K1063 (ninS (Ne.symm ne_b37_z0_1046) nin0))) ((P1062_11.keep K1063 (ninS (Ne.symm ne_b37_z0_1046) nin0))) ((P1062_12.keep K1063 (ninS (Ne.symm ne_b37_z0_1046) nin0))) ((P1062_13.keep K1063 (ninS (Ne.symm ne_b37_z0_1046) nin0))) 
    · have J346_1110 := own_J346_1110 l Z a0 hw h0 n0 p e s m below meth c hx hby hlk hml hown0 hZ0 hret i0 i1 i2 i3 i4 cz vb nn vk b5 b8 b11 ru rv rx b35 b37 T39 z0_1046 y1_1046 y2_1046 ky2_1046 y3_1046 ky3_1046 sj289_1061 hr_ru hr_rv hr_rx hZ39 hown39 hS39 hbeg hn hbk hk pz0 qz0 pz7 pz15 qz7 qz15
      exact J346_1110 _ T1063.heap _  (X1063.mono (by decide) (by decide)) rfl (N1063) ((Nat.le_trans (Nat.le_trans Zj289_1061 K1062.1) K1063.1))  ((Nat.le_trans (Nat.le_trans Ws289_1061 K1062.1) K1063.1)) (((Fj289_1061_6.keep K1062).keep K1063)) (((Fj289_1061_7.keep K1062).keep K1063)) (((Fj289_1061_8.keep K1062).keep K1063)) (((U1.keep K1062).keep K1063)) (((U18.keep K1062 (ninS (Ne.symm Ud8) (ninS (Ne.symm Ud15) (ninS (Ne.symm Ud17) nin0)))).keep K1063 (ninS (Ne.symm ne_b37_y2_1046) nin0))) (((U19.keep K1062 (ninS (Ne.symm Ud9) (ninS (Ne.symm Ud16) (ninS (Ne.symm Ud18) nin0)))).keep K1063 (ninS (Ne.symm ne_b37_y3_1046) nin0))) ((P1062_4.keep K1063 (ninS (Ne.symm ne_b37_z0_1046) nin0))) ((P1062_5.keep K1063 (ninS (Ne.symm ne_b37_z0_1046) nin0))) ((P1062_6.keep K1063 (ninS (Ne.symm ne_b37_z0_1046) nin0))) ((P1062_7.keep K1063 (ninS (Ne.symm ne_b37_z0_1046) nin0))) ((P1062_8.keep K1063 (ninS (Ne.symm ne_b37_z0_1046) nin0))) ((P1062_9.keep K1063 (ninS (Ne.symm ne_b37_z0_1046) nin0))) ((P1062_10.keep K1063 (ninS (Ne.symm ne_b37_z0_1046) nin0))) ((P1062_11.keep K1063 (ninS (Ne.symm ne_b37_z0_1046) nin0))) ((P1062_12.keep K1063 (ninS (Ne.symm ne_b37_z0_1046) nin0))) ((P1062_13.keep K1063 (ninS (Ne.symm ne_b37_z0_1046) nin0))) 
  · obtain ⟨U0, U1, U2, U3, U4, U5, U6, U7, U8, U9, U10, U11, U12, U13, U14, U15, U16, U17, U18, U19, Uk, Un, Uw⟩ := hv289_1061_1
    obtain ⟨Ud0, Ud1, Ud2, Ud3, Ud4, Ud5, Ud6, Ud7, Ud8, Ud9, Ud10, Ud11, Ud12, Ud13, Ud14, Ud15, Ud16, Ud17, Ud18, Ud19, Ud20, Ud21⟩ := hD
    have U4 : Fld Z hj289_1061 b35 own_AC "reading" "Lcom/example/valbonne/valbonne/codec/AttributeCodings$Coding;" .null := by rw [hr] at U4; exact U4
    have U14 : Fld Z hj289_1061 z0_1046 own_CO "size" "I" (.int (Int32.ofNat sj289_1061.2.1)) := U14
    have U18 : Arv Z hj289_1061 y2_1046 ky2_1046 (.object own_NM) (16 : Int32) sj289_1061.2.2.1 .null := U18
    have U19 : Arv Z hj289_1061 y3_1046 ky3_1046 (.object "java/lang/String") (16 : Int32) sj289_1061.2.2.2 .null := U19
    refine own_stepW (f' := (own_G m i0 i1 i2 i3 i4 vb nn vk b5 b8 b11 ru rv rx b35 b37 .unset .unset .unset 330 [(.ref b35)])) (fun _ k => XS.aload X289_1061.here hx rfl (hb hby at_328) rfl rfl k) ?_
    refine own_stepW (f' := (own_G m i0 i1 i2 i3 i4 vb nn vk b5 b8 b11 ru rv rx b35 b37 .unset .unset .unset 332 [(.ref b37), (.ref b35)])) (fun _ k => XS.aload X289_1061.here hx rfl (hb hby at_330) rfl rfl k) ?_
    have Zq1123 : n0 ≤ hj289_1061.size := Zj289_1061
    obtain ⟨cq1123, kq1123, q1123a, q1123b, q1123c⟩ := isOf hZ39 e289_1061 U0
    obtain ⟨_, _, ⟨T1123, L1123, k1123, n1123⟩, -, X1123, ⟨Lc1123, hQ1123, l1123, y1123, z1123⟩, st1123⟩ := X289_1061.virtualBack hx (y := (⟨own_AC, "end", "(Lcom/example/valbonne/valbonne/codec/StreamInput;)V"⟩ : MethodName)) (z := (⟨own_AC, "end", "(Lcom/example/valbonne/valbonne/codec/StreamInput;)V"⟩ : MethodName)) hown39 (mvT hZ39 (own_w110 hw)) (mvT hZ39 (own_w111 hw)) (notFace_of_selects (args := #[]) (mvT hZ39 (own_w113 hw))) (mvT hZ39 (own_w113 hw)) (mvT hZ39 (own_w112 hw)) (by decide) (backOf (W := 0) (rm15n l Z a0 hw [] b35 b37 y1_36 hj289_1061 n0 Zq1123 U0 Ud0 Fj289_1061_11 Fj289_1061_15 Fj289_1061_16 U2 U3 U4 U5) hZ39 (own_w114 hw) (own_w60 hw) (by decide) (by decide)) q1123a q1123c (g := (own_G m i0 i1 i2 i3 i4 vb nn vk b5 b8 b11 ru rv rx b35 b37 .unset .unset .unset 332 [(.ref b37), (.ref b35)])) rfl (by rw [hml]; rfl) (Steps.refl _) (argsL := [(.ref b37)]) (rest := []) (lenOf pd_23 rfl) rfl (by show 2 * 0 + _ ≤ _; exact Nat.le_of_eq rfl) (hb hby at_332) (fun _ _ => ⟨rfl, e289_1061, (by decide : 34 + 0 ≤ _), (by decide : 262 + 0 ≤ _)⟩)
    dsimp only [Pt.U, Pt.locs, Pt.cells, Pt.slots] at X1123 l1123 y1123 z1123 st1123 hQ1123
    subst l1123 y1123 z1123
    obtain ⟨rfl, Nq1123, K1123, P1123_0, P1123_1, P1123_2, P1123_3⟩ := hQ1123
    obtain ⟨Lo1123, X1123, N1123⟩ : ∃ K, Stand p l e room_1 (s.setVm T39.vm) m #[(.int i0), (.int i1), (.int i2), (.int i3), (.int i4)] below meth c T1123 K 34 262 ∧ Fr n0 K := ⟨_, X1123, (Fr.app N289_1061 Nq1123)⟩
    refine own_jumpW (f' := (own_G m i0 i1 i2 i3 i4 vb nn vk b5 b8 b11 ru rv rx b35 b37 .unset .unset .unset 335 [])) st1123 ?_
    refine own_stepW (f' := (own_G m i0 i1 i2 i3 i4 vb nn vk b5 b8 b11 ru rv rx b35 b37 .unset .unset .unset 337 [(.ref b35)])) (fun _ k => XS.aload X1123.here hx rfl (hb hby at_335) rfl rfl k) ?_
    refine own_stepW (f' := (own_G m i0 i1 i2 i3 i4 vb nn vk b5 b8 b11 ru rv rx b35 b37 .unset .unset .unset 339 [(.ref b37), (.ref b35)])) (fun _ k => XS.aload X1123.here hx rfl (hb hby at_337) rfl rfl k) ?_
    refine own_stepW (f' := (own_G m i0 i1 i2 i3 i4 vb nn vk b5 b8 b11 ru rv rx b35 b37 .unset .unset .unset 340 [.null, (.ref b37), (.ref b35)])) (fun _ k => XS.aconstNull X1123.here hx rfl (hb hby at_339) k) ?_
    refine own_stepW (f' := (own_G m i0 i1 i2 i3 i4 vb nn vk b5 b8 b11 ru rv rx b35 b37 .unset .unset .unset 341 [(.int (1 : Int32)), .null, (.ref b37), (.ref b35)])) (fun _ k => XS.iconst X1123.here hx rfl (hb hby at_340) k) ?_
    have Zq1124 : n0 ≤ T1123.heap.size := (Nat.le_trans Zj289_1061 K1123.1)
    obtain ⟨cq1124, kq1124, q1124a, q1124b, q1124c⟩ := isOf hZ39 rfl (U0.keep K1123)
    obtain ⟨_, _, ⟨T1124, L1124, k1124, n1124⟩, -, X1124, ⟨Lc1124, hQ1124, l1124, y1124, z1124⟩, st1124⟩ := X1123.virtualBack hx (y := (⟨own_AC, "readKnown", "(Lcom/example/valbonne/valbonne/codec/StreamInput;Lcom/example/valbonne/valbonne/codec/DeclaredAttributes;Z)Lcom/example/valbonne/valbonne/codec/AttributeCodings$Coding;"⟩ : MethodName)) (z := (⟨own_AC, "readKnown", "(Lcom/example/valbonne/valbonne/codec/StreamInput;Lcom/example/valbonne/valbonne/codec/DeclaredAttributes;Z)Lcom/example/valbonne/valbonne/codec/AttributeCodings$Coding;"⟩ : MethodName)) hown39 (mvT hZ39 (own_w128 hw)) (mvT hZ39 (own_w129 hw)) (notFace_of_selects (args := #[]) (mvT hZ39 (own_w131 hw))) (mvT hZ39 (own_w131 hw)) (mvT hZ39 (own_w130 hw)) (by decide) (backOf (W := 0) (rm17d l Z a0 hw [] b35 b37 y1_36 ky1_36 z0_1046 T1123.heap n0 Zq1124 P1123_0 (Fj289_1061_11.keep K1123) (Fj289_1061_17.keep K1123 (ninS (Ne.symm ne_b35_b37) nin0)) (U16.keep K1123 (ninS (Ne.symm Ud5) nin0)) (U1.keep K1123) (U15.keep K1123 (ninS (Ne.symm Ud6) nin0))) hZ39 (own_w132 hw) (own_w60 hw) (by decide) (by decide)) q1124a q1124c (g := (own_G m i0 i1 i2 i3 i4 vb nn vk b5 b8 b11 ru rv rx b35 b37 .unset .unset .unset 341 [(.int (1 : Int32)), .null, (.ref b37), (.ref b35)])) rfl (by rw [hml]; rfl) (Steps.refl _) (argsL := [(.ref b37), .null, (.int (1 : Int32))]) (rest := []) (lenOf pd_24 rfl) rfl (by show 2 * 0 + _ ≤ _; exact Nat.le_of_eq rfl) (hb hby at_341) (fun _ _ => ⟨rfl, rfl, (by decide : 34 + 0 ≤ _), (by decide : 262 + 0 ≤ _)⟩)
    dsimp only [Pt.U, Pt.locs, Pt.cells, Pt.slots] at X1124 l1124 y1124 z1124 st1124 hQ1124
    subst l1124 y1124 z1124
    obtain ⟨rfl, rfl, e1124⟩ := hQ1124
    try rw [List.append_nil] at X1124
    refine own_jumpW (f' := (own_G m i0 i1 i2 i3 i4 vb nn vk b5 b8 b11 ru rv rx b35 b37 .unset .unset .unset 344 [.null])) st1124 ?_
    refine own_stepW (f' := (own_G m i0 i1 i2 i3 i4 vb nn vk b5 b8 b11 ru rv rx b35 b37 (.val .null) .unset .unset 346 [])) (fun _ k => XS.astore X1124.here hx rfl (hb hby at_344) rfl rfl (l' := #[.val (.int i0), .val (.int i1), .val (.int i2), .val (.int i3), .val (.int i4), .val (.int vb), .val (.int nn), .val (.int vk), .val (.ref b5), .val (.ref b8), .val (.ref b11), .val ru, .val rv, .val rx, .val (.ref b35), .val (.ref b37), .val .null, .unset, .unset]) rfl k) ?_
    refine own_stepW (f' := (own_G m i0 i1 i2 i3 i4 vb nn vk b5 b8 b11 ru rv rx b35 b37 (.val .null) .unset .unset 348 [(.int nn)])) (fun _ k => XS.iload X1124.here hx rfl (hb hby at_346) rfl k) ?_
    refine own_stepW (f' := (own_G m i0 i1 i2 i3 i4 vb nn vk b5 b8 b11 ru rv rx b35 b37 (.val .null) .unset .unset 350 [(.int vk), (.int nn)])) (fun _ k => XS.iload X1124.here hx rfl (hb hby at_348) rfl k) ?_
    have hf350_1125 : ¬ (vk = (0 : Int32)) := (by rw [hbk] <;> decide)
    refine own_stepW (f' := (own_G m i0 i1 i2 i3 i4 vb nn vk b5 b8 b11 ru rv rx b35 b37 (.val .null) .unset .unset 353 [(.int nn)])) (fun _ k => XS.ifNo X1124.here hx rfl (hb hby at_350) rfl ((if0 _ _).trans (feq hf350_1125).1) k) ?_
    refine own_stepW (f' := (own_G m i0 i1 i2 i3 i4 vb nn vk b5 b8 b11 ru rv rx b35 b37 (.val .null) .unset .unset 355 [(.int (16 : Int32)), (.int nn)])) (fun _ k => XS.bipush X1124.here hx rfl (hb hby at_353) k) ?_
    refine own_stepW (f' := (own_G m i0 i1 i2 i3 i4 vb nn vk b5 b8 b11 ru rv rx b35 b37 (.val .null) .unset .unset 359 [(.int (16 : Int32)), (.int nn)])) (fun _ k => XS.goto X1124.here hx rfl (pc0 := 355) (pc' := 359) rfl (hb hby at_355) (by decide) (by decide) k) ?_
    refine own_stepW (f' := (own_G m i0 i1 i2 i3 i4 vb nn vk b5 b8 b11 ru rv rx b35 b37 (.val .null) .unset .unset 360 [(.int (nn + (16 : Int32)))])) (fun _ k => XS.iadd X1124.here hx rfl (hb hby at_359) rfl k) ?_
    refine own_stepW (f' := (own_G m i0 i1 i2 i3 i4 vb nn vk b5 b8 b11 ru rv rx b35 b37 (.val .null) (.val (.int (nn + (16 : Int32)))) .unset 362 [])) (fun _ k => XS.istore X1124.here hx rfl (hb hby at_360) rfl (l' := #[.val (.int i0), .val (.int i1), .val (.int i2), .val (.int i3), .val (.int i4), .val (.int vb), .val (.int nn), .val (.int vk), .val (.ref b5), .val (.ref b8), .val (.ref b11), .val ru, .val rv, .val rx, .val (.ref b35), .val (.ref b37), .val .null, .val (.int (nn + (16 : Int32))), .unset]) rfl k) ?_
    refine own_stepW (f' := (own_G m i0 i1 i2 i3 i4 vb nn vk b5 b8 b11 ru rv rx b35 b37 (.val .null) (.val (.int (nn + (16 : Int32)))) .unset 364 [(.int vb)])) (fun _ k => XS.iload X1124.here hx rfl (hb hby at_362) rfl k) ?_
    have hf364_1126 : ¬ (vb = (0 : Int32)) := (by rw [hbeg] <;> decide)
    refine own_stepW (f' := (own_G m i0 i1 i2 i3 i4 vb nn vk b5 b8 b11 ru rv rx b35 b37 (.val .null) (.val (.int (nn + (16 : Int32)))) .unset 367 [])) (fun _ k => XS.ifNo X1124.here hx rfl (hb hby at_364) rfl ((if0 _ _).trans (feq hf364_1126).1) k) ?_
    refine own_stepW (f' := (own_G m i0 i1 i2 i3 i4 vb nn vk b5 b8 b11 ru rv rx b35 b37 (.val .null) (.val (.int (nn + (16 : Int32)))) .unset 369 [(.int (nn + (16 : Int32)))])) (fun _ k => XS.iload X1124.here hx rfl (hb hby at_367) rfl k) ?_
    refine own_stepW (f' := (own_G m i0 i1 i2 i3 i4 vb nn vk b5 b8 b11 ru rv rx b35 b37 (.val .null) (.val (.int (nn + (16 : Int32)))) .unset 371 [(.int (16 : Int32)), (.int (nn + (16 : Int32)))])) (fun _ k => XS.bipush X1124.here hx rfl (hb hby at_369) k) ?_
    have hf371_1127 : (16 : Int32) < (nn + (16 : Int32)) := (by rcases hcs with q | q | q <;> rw [q] <;> decide)
    refine own_stepW (f' := (own_G m i0 i1 i2 i3 i4 vb nn vk b5 b8 b11 ru rv rx b35 b37 (.val .null) (.val (.int (nn + (16 : Int32)))) .unset 374 [])) (fun _ k => XS.icmpNo X1124.here hx rfl (hb hby at_371) rfl (tlt hf371_1127).2.2.2 k) ?_
    refine own_stepW (f' := (own_G m i0 i1 i2 i3 i4 vb nn vk b5 b8 b11 ru rv rx b35 b37 (.val .null) (.val (.int (nn + (16 : Int32)))) .unset 376 [.null])) (fun _ k => XS.aload X1124.here hx rfl (hb hby at_374) rfl rfl k) ?_
    refine own_stepW (f' := (own_G m i0 i1 i2 i3 i4 vb nn vk b5 b8 b11 ru rv rx b35 b37 (.val .null) (.val (.int (nn + (16 : Int32)))) .unset 379 [])) (fun _ k => XS.ifnonnullNo X1124.here hx rfl (hb hby at_376) rfl k) ?_
    refine own_stepW (f' := (own_G m i0 i1 i2 i3 i4 vb nn vk b5 b8 b11 ru rv rx b35 b37 (.val .null) (.val (.int (nn + (16 : Int32)))) .unset 380 [(.int (1 : Int32))])) (fun _ k => XS.iconst X1124.here hx rfl (hb hby at_379) k) ?_
    refine own_stepW (f' := (own_G m i0 i1 i2 i3 i4 vb nn vk b5 b8 b11 ru rv rx b35 b37 (.val .null) (.val (.int (nn + (16 : Int32)))) .unset 384 [(.int (1 : Int32))])) (fun _ k => XS.goto X1124.here hx rfl (pc0 := 380) (pc' := 384) rfl (hb hby at_380) (by decide) (by decide) k) ?_
    refine own_stepW (f' := (own_G m i0 i1 i2 i3 i4 vb nn vk b5 b8 b11 ru rv rx b35 b37 (.val .null) (.val (.int (nn + (16 : Int32)))) (.val (.int (1 : Int32))) 386 [])) (fun _ k => XS.istore X1124.here hx rfl (hb hby at_384) rfl (l' := #[.val (.int i0), .val (.int i1), .val (.int i2), .val (.int i3), .val (.int i4), .val (.int vb), .val (.int nn), .val (.int vk), .val (.ref b5), .val (.ref b8), .val (.ref b11), .val ru, .val rv, .val rx, .val (.ref b35), .val (.ref b37), .val .null, .val (.int (nn + (16 : Int32))), .val (.int (1 : Int32))]) rfl k) ?_
    refine own_stepW (f' := (own_G m i0 i1 i2 i3 i4 vb nn vk b5 b8 b11 ru rv rx b35 b37 (.val .null) (.val (.int (nn + (16 : Int32)))) (.val (.int (1 : Int32))) 514 [])) (fun _ k => XS.goto X1124.here hx rfl (pc0 := 386) (pc' := 514) rfl (hb hby at_386) (by decide) (by decide) k) ?_
    refine own_stepW (f' := (own_G m i0 i1 i2 i3 i4 vb nn vk b5 b8 b11 ru rv rx b35 b37 (.val .null) (.val (.int (nn + (16 : Int32)))) (.val (.int (1 : Int32))) 516 [(.int (1 : Int32))])) (fun _ k => XS.iload X1124.here hx rfl (hb hby at_514) rfl k) ?_
    refine own_outW (v := some (.int (1 : Int32))) X1124 hS39 (by rw [e1124]; exact (Nat.le_trans Ws289_1061 K1123.1)) hlk (fun h => by rw [hret] at h; cases h) (fun fs hr => retN X1124 hx (t := .boolean) hret (by simp) (hb hby at_516) hr) (by decide) (by decide) ?_
    exact ⟨rfl, N1123⟩
set_option maxRecDepth 65536 in
set_option maxHeartbeats 40000000 in
theorem own_J275_1055 (l : Launch) (Z : State) (a0 : Array Value) (hw : own_HW a0 Z) (h0 : Heap) (n0 : Nat) (p : Program) (e : Env) (s : State) (m : MethodId) (below : List Frame) (meth : Method) (c : Code) (hx : p.tables.exec = Jvm.exec) (hby : c.code = code) (hlk : meth.locks = false) (hml : c.maxLocals = 19) (hown0 : s.vm.findClass "com/example/valbonne/valbonne/codec/AttributeCodingsAddPinLaw" = some m.cls) (hZ0 : Z.Warmed39 s.vm) (hret : meth.sig.returnType = some .boolean) (i0 : Int32) (i1 : Int32) (i2 : Int32) (i3 : Int32) (i4 : Int32) (cz : Int32) (vb : Int32) (nn : Int32) (vk : Int32) (b5 : Addr) (b6 : Addr) (b8 : Addr) (b9 : Addr) (b11 : Addr) (b12 : Addr) (ru : Value) (rv : Value) (rx : Value) (b35 : Addr) (y1_36 : Addr) (ky1_36 : ClassId) (b37 : Addr) (b38 : Addr) (k38 : ClassId) (T39 : State) (z0_1046 : Addr) (y1_1046 : Addr) (ky1_1046 : ClassId) (y2_1046 : Addr) (ky2_1046 : ClassId) (y3_1046 : Addr) (ky3_1046 : ClassId) (sj245_1049 : own_St) (sj260_1052 : own_St) (hr_ru : ru.isRef = true) (hr_rv : rv.isRef = true) (hr_rx : rx.isRef = true) (ne_b35_b37 : b35 ≠ b37) (g_b37 : n0 ≤ b37) (ne_b35_b38 : b35 ≠ b38) (hZ39 : Z.Warmed39 (s.setVm T39.vm).vm) (hown39 : (s.setVm T39.vm).vm.findClass "com/example/valbonne/valbonne/codec/AttributeCodingsAddPinLaw" = some m.cls) (hS39 : s.Since T39.vm T39.heap.size) (hb24 : vk = (0 : Int32) ∨ vk = (1 : Int32)) (hn4 : nn = (0 : Int32) ∨ nn = (1 : Int32) ∨ nn = (2 : Int32) ∨ nn = (3 : Int32)) (hbeg : vb = (1 : Int32)) (ne_b38_z0_1046 : b38 ≠ z0_1046) (ne_b37_z0_1046 : b37 ≠ z0_1046) (ne_b38_y1_1046 : b38 ≠ y1_1046) (ne_b37_y1_1046 : b37 ≠ y1_1046) (ne_b38_y2_1046 : b38 ≠ y2_1046) (ne_b37_y2_1046 : b37 ≠ y2_1046) (ne_b38_y3_1046 : b38 ≠ y3_1046) (ne_b37_y3_1046 : b37 ≠ y3_1046) (hD : own_Dis Z n0 b35 y1_36 z0_1046 y1_1046 y2_1046 y3_1046 ky1_36 ky1_1046 ky2_1046 ky3_1046) (hv245_1049_0 : sj245_1049 = (if (0 : Int32) < nn then (own_add own_s0 b5 ru) else own_s0)) (hv260_1052_0 : sj260_1052 = (if (1 : Int32) < nn then (own_add sj245_1049 b8 rv) else sj245_1049)) : ∀ (T275_1055 : State) (hj275_1055 : Heap) (Lj275_1055 : List Loc) (sj275_1055 : own_St), (Stand p l e room_1 (s.setVm T39.vm) m #[(.int i0), (.int i1), (.int i2), (.int i3), (.int i4)] below meth c T275_1055 Lj275_1055 34 262) → (T275_1055.heap = hj275_1055) → (Fr n0 Lj275_1055) → (n0 ≤ hj275_1055.size) → (T39.heap.size ≤ hj275_1055.size) → (Exa Z hj275_1055 b5 own_NM) → (Exa Z hj275_1055 b6 "java/lang/String") → (Exa Z hj275_1055 b8 own_NM) → (Exa Z hj275_1055 b9 "java/lang/String") → (Exa Z hj275_1055 b11 own_NM) → (Exa Z hj275_1055 b12 "java/lang/String") → (own_Opt Z hj275_1055 ru "java/lang/String") → (own_Opt Z hj275_1055 rv "java/lang/String") → (own_Opt Z hj275_1055 rx "java/lang/String") → (Exa Z hj275_1055 b35 own_AC) → (Exa Z hj275_1055 b37 own_SI) → (Arv Z hj275_1055 b38 k38 .byte (0 : Int32) [] (.int (0 : Int32))) → (Fld Z hj275_1055 b37 own_SI "bytes" "[B" (.ref b38)) → (Fld Z hj275_1055 b37 own_SI "limit" "I" (.int (0 : Int32))) → (Fld Z hj275_1055 b37 own_SI "pos" "I" (.int (0 : Int32))) → (Fld Z hj275_1055 b37 own_SI "offset" "J" (.long (0 : Int64))) → (Fld Z hj275_1055 b37 own_SI "attributePage" "I" (.int (0 : Int32))) → (Exa Z hj275_1055 z0_1046 own_CO) → (sj275_1055 = (if (2 : Int32) < nn then (own_add sj260_1052 b11 rx) else sj260_1052)) → (own_Inv Z hj275_1055 b35 y1_36 z0_1046 y1_1046 y2_1046 y3_1046 ky1_36 ky1_1046 ky2_1046 ky3_1046 sj275_1055) → own_GoesW p e below s (Q0 Z i0 i1 i2 i3 i4 cz h0 n0) room_1.cells room_1.slots T275_1055 (own_G m i0 i1 i2 i3 i4 vb nn vk b5 b8 b11 ru rv rx b35 b37 .unset .unset .unset 287 []) := by
  have hown := hown0
  have hZ := hZ0
  intro T275_1055 hj275_1055 Lj275_1055 sj275_1055 X275_1055 e275_1055 N275_1055 Zj275_1055 Ws275_1055 Fj275_1055_0 Fj275_1055_1 Fj275_1055_2 Fj275_1055_3 Fj275_1055_4 Fj275_1055_5 Fj275_1055_6 Fj275_1055_7 Fj275_1055_8 Fj275_1055_9 Fj275_1055_11 Fj275_1055_12 Fj275_1055_13 Fj275_1055_14 Fj275_1055_15 Fj275_1055_16 Fj275_1055_17 Fj275_1055_18 hv275_1055_0 hv275_1055_1
  have hr_ru : ru.isRef = true := Fj275_1055_6.isR
  have hr_rv : rv.isRef = true := Fj275_1055_7.isR
  have hr_rx : rx.isRef = true := Fj275_1055_8.isR
  refine own_stepW (f' := (own_G m i0 i1 i2 i3 i4 vb nn vk b5 b8 b11 ru rv rx b35 b37 .unset .unset .unset 289 [(.int vk)])) (fun _ k => XS.iload X275_1055.here hx rfl (hb hby at_287) rfl k) ?_
  have J289_1061 := own_J289_1061 l Z a0 hw h0 n0 p e s m below meth c hx hby hlk hml hown0 hZ0 hret i0 i1 i2 i3 i4 cz vb nn vk b5 b6 b8 b9 b11 b12 ru rv rx b35 y1_36 ky1_36 b37 b38 k38 T39 z0_1046 y1_1046 ky1_1046 y2_1046 ky2_1046 y3_1046 ky3_1046 sj245_1049 sj260_1052 sj275_1055 hr_ru hr_rv hr_rx ne_b35_b37 g_b37 hZ39 hown39 hS39 hb24 hn4 hbeg ne_b38_z0_1046 ne_b37_z0_1046 ne_b38_y1_1046 ne_b37_y1_1046 ne_b37_y2_1046 ne_b37_y3_1046 hD hv245_1049_0 hv260_1052_0 hv275_1055_0
  by_cases hc289_1056 : vk = (0 : Int32)
  · refine own_stepW (f' := (own_G m i0 i1 i2 i3 i4 vb nn vk b5 b8 b11 ru rv rx b35 b37 .unset .unset .unset 328 [])) (fun _ k => XS.ifYes X275_1055.here hx rfl (pc0 := 289) (pc' := 328) rfl (hb hby at_289) rfl ((if0 _ _).trans (teq hc289_1056).1) (by decide) (by decide) k) ?_
    exact J289_1061 _ hj275_1055 _ sj275_1055 (X275_1055.mono (by decide) (by decide)) e275_1055 (N275_1055) (Zj275_1055)  (Ws275_1055) (Fj275_1055_0) (Fj275_1055_1) (Fj275_1055_2) (Fj275_1055_3) (Fj275_1055_4) (Fj275_1055_5) (Fj275_1055_6) (Fj275_1055_7) (Fj275_1055_8) (Fj275_1055_9) (Fj275_1055_11) (Fj275_1055_12) (Fj275_1055_13) (Fj275_1055_14) (Fj275_1055_15) (Fj275_1055_16) (Fj275_1055_17) (Fj275_1055_18) (by rw [if_pos hc289_1056]) hv275_1055_1
  · refine own_stepW (f' := (own_G m i0 i1 i2 i3 i4 vb nn vk b5 b8 b11 ru rv rx b35 b37 .unset .unset .unset 292 [])) (fun _ k => XS.ifNo X275_1055.here hx rfl (hb hby at_289) rfl ((if0 _ _).trans (feq hc289_1056).1) k) ?_
    refine own_stepW (f' := (own_G m i0 i1 i2 i3 i4 vb nn vk b5 b8 b11 ru rv rx b35 b37 .unset .unset .unset 294 [(.ref b35)])) (fun _ k => XS.aload X275_1055.here hx rfl (hb hby at_292) rfl rfl k) ?_
    refine own_stepW (f' := (own_G m i0 i1 i2 i3 i4 vb nn vk b5 b8 b11 ru rv rx b35 b37 .unset .unset .unset 296 [(.ref b5), (.ref b35)])) (fun _ k => XS.aload X275_1055.here hx rfl (hb hby at_294) rfl rfl k) ?_
    refine own_stepW (f' := (own_G m i0 i1 i2 i3 i4 vb nn vk b5 b8 b11 ru rv rx b35 b37 .unset .unset .unset 298 [ru, (.ref b5), (.ref b35)])) (fun _ k => XS.aload X275_1055.here hx rfl (hb hby at_296) rfl hr_ru k) ?_
    have hp2057_hD : own_Dis Z n0 b35 y1_36 z0_1046 y1_1046 y2_1046 y3_1046 ky1_36 ky1_1046 ky2_1046 ky3_1046 := hD
    have hp2057_hI : own_Inv Z hj275_1055 b35 y1_36 z0_1046 y1_1046 y2_1046 y3_1046 ky1_36 ky1_1046 ky2_1046 ky3_1046 sj275_1055 := hv275_1055_1
    have Zq2057 : n0 ≤ hj275_1055.size := Zj275_1055
    obtain ⟨_, _, ⟨T2057, L2057, k2057, n2057⟩, -, X2057, ⟨Lc2057, hQ2057, l2057, y2057, z2057⟩, st2057⟩ := Jvm.LawKit.callS X275_1055 hx (y := (⟨"com/example/valbonne/valbonne/codec/AttributeCodingsAddPinLaw", "addFour", "(Lcom/example/valbonne/valbonne/codec/AttributeCodings;Lcom/example/valbonne/valbonne/codec/Name;Ljava/lang/String;)V"⟩ : MethodName)) hown39 (mvT hZ39 (own_w241 hw)) (mvT hZ39 (own_w242 hw)) (mvT hZ39 (own_w229 hw)) (mvT hZ39 (own_w243 hw)) (by decide) (backOf (W := 0) (rm32b l Z a0 hw [] b35 b5 ru y1_36 z0_1046 y1_1046 y2_1046 y3_1046 ky1_36 ky1_1046 ky2_1046 ky3_1046 sj275_1055 hj275_1055 n0 Zq2057 Fj275_1055_6 Fj275_1055_0 hp2057_hD hp2057_hI Fj275_1055_9) hZ39 (own_w243 hw) (own_w229 hw) (by decide) (by decide)) (g := (own_G m i0 i1 i2 i3 i4 vb nn vk b5 b8 b11 ru rv rx b35 b37 .unset .unset .unset 298 [ru, (.ref b5), (.ref b35)])) rfl (by rw [hml]; rfl) (argsL := [(.ref b35), (.ref b5), ru]) (rest := []) (lenOf pd_22 rfl) rfl (by show 2 * 0 + _ ≤ _; exact Nat.le_of_eq rfl) (hb hby at_298) (fun _ _ => ⟨rfl, e275_1055, (by decide : 34 + 0 ≤ _), (by decide : 262 + 0 ≤ _)⟩)
    dsimp only [Pt.U, Pt.locs, Pt.cells, Pt.slots] at X2057 l2057 y2057 z2057 st2057 hQ2057
    subst l2057 y2057 z2057
    obtain ⟨rfl, Nq2057, K2057, I2057⟩ := hQ2057
    obtain ⟨Lo2057, X2057, N2057⟩ : ∃ K, Stand p l e room_1 (s.setVm T39.vm) m #[(.int i0), (.int i1), (.int i2), (.int i3), (.int i4)] below meth c T2057 K 34 262 ∧ Fr n0 K := ⟨_, X2057, (Fr.app N275_1055 Nq2057)⟩
    refine own_stepW (f' := (own_G m i0 i1 i2 i3 i4 vb nn vk b5 b8 b11 ru rv rx b35 b37 .unset .unset .unset 301 [])) st2057 ?_
    refine own_stepW (f' := (own_G m i0 i1 i2 i3 i4 vb nn vk b5 b8 b11 ru rv rx b35 b37 .unset .unset .unset 303 [(.ref b35)])) (fun _ k => XS.aload X2057.here hx rfl (hb hby at_301) rfl rfl k) ?_
    refine own_stepW (f' := (own_G m i0 i1 i2 i3 i4 vb nn vk b5 b8 b11 ru rv rx b35 b37 .unset .unset .unset 305 [(.ref b5), (.ref b35)])) (fun _ k => XS.aload X2057.here hx rfl (hb hby at_303) rfl rfl k) ?_
    refine own_stepW (f' := (own_G m i0 i1 i2 i3 i4 vb nn vk b5 b8 b11 ru rv rx b35 b37 .unset .unset .unset 307 [ru, (.ref b5), (.ref b35)])) (fun _ k => XS.aload X2057.here hx rfl (hb hby at_305) rfl hr_ru k) ?_
    have hp2058_hD : own_Dis Z n0 b35 y1_36 z0_1046 y1_1046 y2_1046 y3_1046 ky1_36 ky1_1046 ky2_1046 ky3_1046 := hD
    have hp2058_hI : own_Inv Z T2057.heap b35 y1_36 z0_1046 y1_1046 y2_1046 y3_1046 ky1_36 ky1_1046 ky2_1046 ky3_1046 (own_four sj275_1055 b5 ru) := I2057
    have Zq2058 : n0 ≤ T2057.heap.size := (Nat.le_trans Zj275_1055 K2057.1)
    obtain ⟨_, _, ⟨T2058, L2058, k2058, n2058⟩, -, X2058, ⟨Lc2058, hQ2058, l2058, y2058, z2058⟩, st2058⟩ := Jvm.LawKit.callS X2057 hx (y := (⟨"com/example/valbonne/valbonne/codec/AttributeCodingsAddPinLaw", "addFour", "(Lcom/example/valbonne/valbonne/codec/AttributeCodings;Lcom/example/valbonne/valbonne/codec/Name;Ljava/lang/String;)V"⟩ : MethodName)) hown39 (mvT hZ39 (own_w241 hw)) (mvT hZ39 (own_w242 hw)) (mvT hZ39 (own_w229 hw)) (mvT hZ39 (own_w243 hw)) (by decide) (backOf (W := 0) (rm32b l Z a0 hw [] b35 b5 ru y1_36 z0_1046 y1_1046 y2_1046 y3_1046 ky1_36 ky1_1046 ky2_1046 ky3_1046 (own_four sj275_1055 b5 ru) T2057.heap n0 Zq2058 (Fj275_1055_6.keep K2057) (Fj275_1055_0.keep K2057) hp2058_hD hp2058_hI (Fj275_1055_9.keep K2057)) hZ39 (own_w243 hw) (own_w229 hw) (by decide) (by decide)) (g := (own_G m i0 i1 i2 i3 i4 vb nn vk b5 b8 b11 ru rv rx b35 b37 .unset .unset .unset 307 [ru, (.ref b5), (.ref b35)])) rfl (by rw [hml]; rfl) (argsL := [(.ref b35), (.ref b5), ru]) (rest := []) (lenOf pd_22 rfl) rfl (by show 2 * 0 + _ ≤ _; exact Nat.le_of_eq rfl) (hb hby at_307) (fun _ _ => ⟨rfl, rfl, (by decide : 34 + 0 ≤ _), (by decide : 262 + 0 ≤ _)⟩)
    dsimp only [Pt.U, Pt.locs, Pt.cells, Pt.slots] at X2058 l2058 y2058 z2058 st2058 hQ2058
    subst l2058 y2058 z2058
    obtain ⟨rfl, Nq2058, K2058, I2058⟩ := hQ2058
    obtain ⟨Lo2058, X2058, N2058⟩ : ∃ K, Stand p l e room_1 (s.setVm T39.vm) m #[(.int i0), (.int i1), (.int i2), (.int i3), (.int i4)] below meth c T2058 K 34 262 ∧ Fr n0 K := ⟨_, X2058, (Fr.app N2057 Nq2058)⟩
    refine own_stepW (f' := (own_G m i0 i1 i2 i3 i4 vb nn vk b5 b8 b11 ru rv rx b35 b37 .unset .unset .unset 310 [])) st2058 ?_
    refine own_stepW (f' := (own_G m i0 i1 i2 i3 i4 vb nn vk b5 b8 b11 ru rv rx b35 b37 .unset .unset .unset 312 [(.ref b35)])) (fun _ k => XS.aload X2058.here hx rfl (hb hby at_310) rfl rfl k) ?_
    refine own_stepW (f' := (own_G m i0 i1 i2 i3 i4 vb nn vk b5 b8 b11 ru rv rx b35 b37 .unset .unset .unset 314 [(.ref b5), (.ref b35)])) (fun _ k => XS.aload X2058.here hx rfl (hb hby at_312) rfl rfl k) ?_
    refine own_stepW (f' := (own_G m i0 i1 i2 i3 i4 vb nn vk b5 b8 b11 ru rv rx b35 b37 .unset .unset .unset 316 [ru, (.ref b5), (.ref b35)])) (fun _ k => XS.aload X2058.here hx rfl (hb hby at_314) rfl hr_ru k) ?_
    have hp2059_hD : own_Dis Z n0 b35 y1_36 z0_1046 y1_1046 y2_1046 y3_1046 ky1_36 ky1_1046 ky2_1046 ky3_1046 := hD
    have hp2059_hI : own_Inv Z T2058.heap b35 y1_36 z0_1046 y1_1046 y2_1046 y3_1046 ky1_36 ky1_1046 ky2_1046 ky3_1046 (own_four (own_four sj275_1055 b5 ru) b5 ru) := I2058
    have Zq2059 : n0 ≤ T2058.heap.size := (Nat.le_trans (Nat.le_trans Zj275_1055 K2057.1) K2058.1)
    obtain ⟨_, _, ⟨T2059, L2059, k2059, n2059⟩, -, X2059, ⟨Lc2059, hQ2059, l2059, y2059, z2059⟩, st2059⟩ := Jvm.LawKit.callS X2058 hx (y := (⟨"com/example/valbonne/valbonne/codec/AttributeCodingsAddPinLaw", "addFour", "(Lcom/example/valbonne/valbonne/codec/AttributeCodings;Lcom/example/valbonne/valbonne/codec/Name;Ljava/lang/String;)V"⟩ : MethodName)) hown39 (mvT hZ39 (own_w241 hw)) (mvT hZ39 (own_w242 hw)) (mvT hZ39 (own_w229 hw)) (mvT hZ39 (own_w243 hw)) (by decide) (backOf (W := 0) (rm32b l Z a0 hw [] b35 b5 ru y1_36 z0_1046 y1_1046 y2_1046 y3_1046 ky1_36 ky1_1046 ky2_1046 ky3_1046 (own_four (own_four sj275_1055 b5 ru) b5 ru) T2058.heap n0 Zq2059 ((Fj275_1055_6.keep K2057).keep K2058) ((Fj275_1055_0.keep K2057).keep K2058) hp2059_hD hp2059_hI ((Fj275_1055_9.keep K2057).keep K2058)) hZ39 (own_w243 hw) (own_w229 hw) (by decide) (by decide)) (g := (own_G m i0 i1 i2 i3 i4 vb nn vk b5 b8 b11 ru rv rx b35 b37 .unset .unset .unset 316 [ru, (.ref b5), (.ref b35)])) rfl (by rw [hml]; rfl) (argsL := [(.ref b35), (.ref b5), ru]) (rest := []) (lenOf pd_22 rfl) rfl (by show 2 * 0 + _ ≤ _; exact Nat.le_of_eq rfl) (hb hby at_316) (fun _ _ => ⟨rfl, rfl, (by decide : 34 + 0 ≤ _), (by decide : 262 + 0 ≤ _)⟩)
    dsimp only [Pt.U, Pt.locs, Pt.cells, Pt.slots] at X2059 l2059 y2059 z2059 st2059 hQ2059
    subst l2059 y2059 z2059
    obtain ⟨rfl, Nq2059, K2059, I2059⟩ := hQ2059
    obtain ⟨Lo2059, X2059, N2059⟩ : ∃ K, Stand p l e room_1 (s.setVm T39.vm) m #[(.int i0), (.int i1), (.int i2), (.int i3), (.int i4)] below meth c T2059 K 34 262 ∧ Fr n0 K := ⟨_, X2059, (Fr.app N2058 Nq2059)⟩
    refine own_stepW (f' := (own_G m i0 i1 i2 i3 i4 vb nn vk b5 b8 b11 ru rv rx b35 b37 .unset .unset .unset 319 [])) st2059 ?_
    refine own_stepW (f' := (own_G m i0 i1 i2 i3 i4 vb nn vk b5 b8 b11 ru rv rx b35 b37 .unset .unset .unset 321 [(.ref b35)])) (fun _ k => XS.aload X2059.here hx rfl (hb hby at_319) rfl rfl k) ?_
    refine own_stepW (f' := (own_G m i0 i1 i2 i3 i4 vb nn vk b5 b8 b11 ru rv rx b35 b37 .unset .unset .unset 323 [(.ref b5), (.ref b35)])) (fun _ k => XS.aload X2059.here hx rfl (hb hby at_321) rfl rfl k) ?_
    refine own_stepW (f' := (own_G m i0 i1 i2 i3 i4 vb nn vk b5 b8 b11 ru rv rx b35 b37 .unset .unset .unset 325 [ru, (.ref b5), (.ref b35)])) (fun _ k => XS.aload X2059.here hx rfl (hb hby at_323) rfl hr_ru k) ?_
    have hp2060_hD : own_Dis Z n0 b35 y1_36 z0_1046 y1_1046 y2_1046 y3_1046 ky1_36 ky1_1046 ky2_1046 ky3_1046 := hD
    have hp2060_hI : own_Inv Z T2059.heap b35 y1_36 z0_1046 y1_1046 y2_1046 y3_1046 ky1_36 ky1_1046 ky2_1046 ky3_1046 (own_four (own_four (own_four sj275_1055 b5 ru) b5 ru) b5 ru) := I2059
    have Zq2060 : n0 ≤ T2059.heap.size := (Nat.le_trans (Nat.le_trans (Nat.le_trans Zj275_1055 K2057.1) K2058.1) K2059.1)
    obtain ⟨_, _, ⟨T2060, L2060, k2060, n2060⟩, -, X2060, ⟨Lc2060, hQ2060, l2060, y2060, z2060⟩, st2060⟩ := Jvm.LawKit.callS X2059 hx (y := (⟨"com/example/valbonne/valbonne/codec/AttributeCodingsAddPinLaw", "addFour", "(Lcom/example/valbonne/valbonne/codec/AttributeCodings;Lcom/example/valbonne/valbonne/codec/Name;Ljava/lang/String;)V"⟩ : MethodName)) hown39 (mvT hZ39 (own_w241 hw)) (mvT hZ39 (own_w242 hw)) (mvT hZ39 (own_w229 hw)) (mvT hZ39 (own_w243 hw)) (by decide) (backOf (W := 0) (rm32b l Z a0 hw [] b35 b5 ru y1_36 z0_1046 y1_1046 y2_1046 y3_1046 ky1_36 ky1_1046 ky2_1046 ky3_1046 (own_four (own_four (own_four sj275_1055 b5 ru) b5 ru) b5 ru) T2059.heap n0 Zq2060 (((Fj275_1055_6.keep K2057).keep K2058).keep K2059) (((Fj275_1055_0.keep K2057).keep K2058).keep K2059) hp2060_hD hp2060_hI (((Fj275_1055_9.keep K2057).keep K2058).keep K2059)) hZ39 (own_w243 hw) (own_w229 hw) (by decide) (by decide)) (g := (own_G m i0 i1 i2 i3 i4 vb nn vk b5 b8 b11 ru rv rx b35 b37 .unset .unset .unset 325 [ru, (.ref b5), (.ref b35)])) rfl (by rw [hml]; rfl) (argsL := [(.ref b35), (.ref b5), ru]) (rest := []) (lenOf pd_22 rfl) rfl (by show 2 * 0 + _ ≤ _; exact Nat.le_of_eq rfl) (hb hby at_325) (fun _ _ => ⟨rfl, rfl, (by decide : 34 + 0 ≤ _), (by decide : 262 + 0 ≤ _)⟩)
    dsimp only [Pt.U, Pt.locs, Pt.cells, Pt.slots] at X2060 l2060 y2060 z2060 st2060 hQ2060
    subst l2060 y2060 z2060
    obtain ⟨rfl, Nq2060, K2060, I2060⟩ := hQ2060
    obtain ⟨Lo2060, X2060, N2060⟩ : ∃ K, Stand p l e room_1 (s.setVm T39.vm) m #[(.int i0), (.int i1), (.int i2), (.int i3), (.int i4)] below meth c T2060 K 34 262 ∧ Fr n0 K := ⟨_, X2060, (Fr.app N2059 Nq2060)⟩
    refine own_stepW (f' := (own_G m i0 i1 i2 i3 i4 vb nn vk b5 b8 b11 ru rv rx b35 b37 .unset .unset .unset 328 [])) st2060 ?_
    exact J289_1061 _ T2060.heap _ (own_four (own_four (own_four (own_four sj275_1055 b5 ru) b5 ru) b5 ru) b5 ru) (X2060.mono (by decide) (by decide)) rfl (N2060) ((Nat.le_trans (Nat.le_trans (Nat.le_trans (Nat.le_trans Zj275_1055 K2057.1) K2058.1) K2059.1) K2060.1))  ((Nat.le_trans (Nat.le_trans (Nat.le_trans (Nat.le_trans Ws275_1055 K2057.1) K2058.1) K2059.1) K2060.1)) (((((Fj275_1055_0.keep K2057).keep K2058).keep K2059).keep K2060)) (((((Fj275_1055_1.keep K2057).keep K2058).keep K2059).keep K2060)) (((((Fj275_1055_2.keep K2057).keep K2058).keep K2059).keep K2060)) (((((Fj275_1055_3.keep K2057).keep K2058).keep K2059).keep K2060)) (((((Fj275_1055_4.keep K2057).keep K2058).keep K2059).keep K2060)) (((((Fj275_1055_5.keep K2057).keep K2058).keep K2059).keep K2060)) (((((Fj275_1055_6.keep K2057).keep K2058).keep K2059).keep K2060)) (((((Fj275_1055_7.keep K2057).keep K2058).keep K2059).keep K2060)) (((((Fj275_1055_8.keep K2057).keep K2058).keep K2059).keep K2060)) (((((Fj275_1055_9.keep K2057).keep K2058).keep K2059).keep K2060)) (((((Fj275_1055_11.keep K2057).keep K2058).keep K2059).keep K2060)) (((((Fj275_1055_12.keep K2057 (ninS (Ne.symm ne_b35_b38) (ninS ne_b38_z0_1046 (ninS ne_b38_y2_1046 (ninS ne_b38_y3_1046 nin0))))).keep K2058 (ninS (Ne.symm ne_b35_b38) (ninS ne_b38_z0_1046 (ninS ne_b38_y2_1046 (ninS ne_b38_y3_1046 nin0))))).keep K2059 (ninS (Ne.symm ne_b35_b38) (ninS ne_b38_z0_1046 (ninS ne_b38_y2_1046 (ninS ne_b38_y3_1046 nin0))))).keep K2060 (ninS (Ne.symm ne_b35_b38) (ninS ne_b38_z0_1046 (ninS ne_b38_y2_1046 (ninS ne_b38_y3_1046 nin0)))))) (((((Fj275_1055_13.keep K2057 (ninS (Ne.symm ne_b35_b37) (ninS ne_b37_z0_1046 (ninS ne_b37_y2_1046 (ninS ne_b37_y3_1046 nin0))))).keep K2058 (ninS (Ne.symm ne_b35_b37) (ninS ne_b37_z0_1046 (ninS ne_b37_y2_1046 (ninS ne_b37_y3_1046 nin0))))).keep K2059 (ninS (Ne.symm ne_b35_b37) (ninS ne_b37_z0_1046 (ninS ne_b37_y2_1046 (ninS ne_b37_y3_1046 nin0))))).keep K2060 (ninS (Ne.symm ne_b35_b37) (ninS ne_b37_z0_1046 (ninS ne_b37_y2_1046 (ninS ne_b37_y3_1046 nin0)))))) (((((Fj275_1055_14.keep K2057 (ninS (Ne.symm ne_b35_b37) (ninS ne_b37_z0_1046 (ninS ne_b37_y2_1046 (ninS ne_b37_y3_1046 nin0))))).keep K2058 (ninS (Ne.symm ne_b35_b37) (ninS ne_b37_z0_1046 (ninS ne_b37_y2_1046 (ninS ne_b37_y3_1046 nin0))))).keep K2059 (ninS (Ne.symm ne_b35_b37) (ninS ne_b37_z0_1046 (ninS ne_b37_y2_1046 (ninS ne_b37_y3_1046 nin0))))).keep K2060 (ninS (Ne.symm ne_b35_b37) (ninS ne_b37_z0_1046 (ninS ne_b37_y2_1046 (ninS ne_b37_y3_1046 nin0)))))) (((((Fj275_1055_15.keep K2057 (ninS (Ne.symm ne_b35_b37) (ninS ne_b37_z0_1046 (ninS ne_b37_y2_1046 (ninS ne_b37_y3_1046 nin0))))).keep K2058 (ninS (Ne.symm ne_b35_b37) (ninS ne_b37_z0_1046 (ninS ne_b37_y2_1046 (ninS ne_b37_y3_1046 nin0))))).keep K2059 (ninS (Ne.symm ne_b35_b37) (ninS ne_b37_z0_1046 (ninS ne_b37_y2_1046 (ninS ne_b37_y3_1046 nin0))))).keep K2060 (ninS (Ne.symm ne_b35_b37) (ninS ne_b37_z0_1046 (ninS ne_b37_y2_1046 (ninS ne_b37_y3_1046 nin0)))))) (((((Fj275_1055_16.keep K2057 (ninS (Ne.symm ne_b35_b37) (ninS ne_b37_z0_1046 (ninS ne_b37_y2_1046 (ninS ne_b37_y3_1046 nin0))))).keep K2058 (ninS (Ne.symm ne_b35_b37) (ninS ne_b37_z0_1046 (ninS ne_b37_y2_1046 (ninS ne_b37_y3_1046 nin0))))).keep K2059 (ninS (Ne.symm ne_b35_b37) (ninS ne_b37_z0_1046 (ninS ne_b37_y2_1046 (ninS ne_b37_y3_1046 nin0))))).keep K2060 (ninS (Ne.symm ne_b35_b37) (ninS ne_b37_z0_1046 (ninS ne_b37_y2_1046 (ninS ne_b37_y3_1046 nin0)))))) (((((Fj275_1055_17.keep K2057 (ninS (Ne.symm ne_b35_b37) (ninS ne_b37_z0_1046 (ninS ne_b37_y2_1046 (ninS ne_b37_y3_1046 nin0))))).keep K2058 (ninS (Ne.symm ne_b35_b37) (ninS ne_b37_z0_1046 (ninS ne_b37_y2_1046 (ninS ne_b37_y3_1046 nin0))))).keep K2059 (ninS (Ne.symm ne_b35_b37) (ninS ne_b37_z0_1046 (ninS ne_b37_y2_1046 (ninS ne_b37_y3_1046 nin0))))).keep K2060 (ninS (Ne.symm ne_b35_b37) (ninS ne_b37_z0_1046 (ninS ne_b37_y2_1046 (ninS ne_b37_y3_1046 nin0)))))) (((((Fj275_1055_18.keep K2057).keep K2058).keep K2059).keep K2060)) (by rw [if_neg hc289_1056]) I2060
set_option maxRecDepth 65536 in
set_option maxHeartbeats 40000000 in
theorem own_J260_1052 (l : Launch) (Z : State) (a0 : Array Value) (hw : own_HW a0 Z) (h0 : Heap) (n0 : Nat) (p : Program) (e : Env) (s : State) (m : MethodId) (below : List Frame) (meth : Method) (c : Code) (hx : p.tables.exec = Jvm.exec) (hby : c.code = code) (hlk : meth.locks = false) (hml : c.maxLocals = 19) (hown0 : s.vm.findClass "com/example/valbonne/valbonne/codec/AttributeCodingsAddPinLaw" = some m.cls) (hZ0 : Z.Warmed39 s.vm) (hret : meth.sig.returnType = some .boolean) (i0 : Int32) (i1 : Int32) (i2 : Int32) (i3 : Int32) (i4 : Int32) (cz : Int32) (vb : Int32) (nn : Int32) (vk : Int32) (b5 : Addr) (b6 : Addr) (b8 : Addr) (b9 : Addr) (b11 : Addr) (b12 : Addr) (ru : Value) (rv : Value) (rx : Value) (b35 : Addr) (y1_36 : Addr) (ky1_36 : ClassId) (b37 : Addr) (b38 : Addr) (k38 : ClassId) (T39 : State) (z0_1046 : Addr) (y1_1046 : Addr) (ky1_1046 : ClassId) (y2_1046 : Addr) (ky2_1046 : ClassId) (y3_1046 : Addr) (ky3_1046 : ClassId) (sj245_1049 : own_St) (hr_ru : ru.isRef = true) (hr_rv : rv.isRef = true) (hr_rx : rx.isRef = true) (ne_b35_b37 : b35 ≠ b37) (g_b37 : n0 ≤ b37) (ne_b35_b38 : b35 ≠ b38) (hZ39 : Z.Warmed39 (s.setVm T39.vm).vm) (hown39 : (s.setVm T39.vm).vm.findClass "com/example/valbonne/valbonne/codec/AttributeCodingsAddPinLaw" = some m.cls) (hS39 : s.Since T39.vm T39.heap.size) (hb24 : vk = (0 : Int32) ∨ vk = (1 : Int32)) (hn4 : nn = (0 : Int32) ∨ nn = (1 : Int32) ∨ nn = (2 : Int32) ∨ nn = (3 : Int32)) (hbeg : vb = (1 : Int32)) (ne_b38_z0_1046 : b38 ≠ z0_1046) (ne_b37_z0_1046 : b37 ≠ z0_1046) (ne_b38_y1_1046 : b38 ≠ y1_1046) (ne_b37_y1_1046 : b37 ≠ y1_1046) (ne_b38_y2_1046 : b38 ≠ y2_1046) (ne_b37_y2_1046 : b37 ≠ y2_1046) (ne_b38_y3_1046 : b38 ≠ y3_1046) (ne_b37_y3_1046 : b37 ≠ y3_1046) (hD : own_Dis Z n0 b35 y1_36 z0_1046 y1_1046 y2_1046 y3_1046 ky1_36 ky1_1046 ky2_1046 ky3_1046) (hv245_1049_0 : sj245_1049 = (if (0 : Int32) < nn then (own_add own_s0 b5 ru) else own_s0)) : ∀ (T260_1052 : State) (hj260_1052 : Heap) (Lj260_1052 : List Loc) (sj260_1052 : own_St), (Stand p l e room_1 (s.setVm T39.vm) m #[(.int i0), (.int i1), (.int i2), (.int i3), (.int i4)] below meth c T260_1052 Lj260_1052 34 262) → (T260_1052.heap = hj260_1052) → (Fr n0 Lj260_1052) → (n0 ≤ hj260_1052.size) → (T39.heap.size ≤ hj260_1052.size) → (Exa Z hj260_1052 b5 own_NM) → (Exa Z hj260_1052 b6 "java/lang/String") → (Exa Z hj260_1052 b8 own_NM) → (Exa Z hj260_1052 b9 "java/lang/String") → (Exa Z hj260_1052 b11 own_NM) → (Exa Z hj260_1052 b12 "java/lang/String") → (own_Opt Z hj260_1052 ru "java/lang/String") → (own_Opt Z hj260_1052 rv "java/lang/String") → (own_Opt Z hj260_1052 rx "java/lang/String") → (Exa Z hj260_1052 b35 own_AC) → (Exa Z hj260_1052 b37 own_SI) → (Arv Z hj260_1052 b38 k38 .byte (0 : Int32) [] (.int (0 : Int32))) → (Fld Z hj260_1052 b37 own_SI "bytes" "[B" (.ref b38)) → (Fld Z hj260_1052 b37 own_SI "limit" "I" (.int (0 : Int32))) → (Fld Z hj260_1052 b37 own_SI "pos" "I" (.int (0 : Int32))) → (Fld Z hj260_1052 b37 own_SI "offset" "J" (.long (0 : Int64))) → (Fld Z hj260_1052 b37 own_SI "attributePage" "I" (.int (0 : Int32))) → (Exa Z hj260_1052 z0_1046 own_CO) → (sj260_1052 = (if (1 : Int32) < nn then (own_add sj245_1049 b8 rv) else sj245_1049)) → (own_Inv Z hj260_1052 b35 y1_36 z0_1046 y1_1046 y2_1046 y3_1046 ky1_36 ky1_1046 ky2_1046 ky3_1046 sj260_1052) → own_GoesW p e below s (Q0 Z i0 i1 i2 i3 i4 cz h0 n0) room_1.cells room_1.slots T260_1052 (own_G m i0 i1 i2 i3 i4 vb nn vk b5 b8 b11 ru rv rx b35 b37 .unset .unset .unset 272 []) := by
  have hown := hown0
  have hZ := hZ0
  intro T260_1052 hj260_1052 Lj260_1052 sj260_1052 X260_1052 e260_1052 N260_1052 Zj260_1052 Ws260_1052 Fj260_1052_0 Fj260_1052_1 Fj260_1052_2 Fj260_1052_3 Fj260_1052_4 Fj260_1052_5 Fj260_1052_6 Fj260_1052_7 Fj260_1052_8 Fj260_1052_9 Fj260_1052_11 Fj260_1052_12 Fj260_1052_13 Fj260_1052_14 Fj260_1052_15 Fj260_1052_16 Fj260_1052_17 Fj260_1052_18 hv260_1052_0 hv260_1052_1
  have hr_ru : ru.isRef = true := Fj260_1052_6.isR
  have hr_rv : rv.isRef = true := Fj260_1052_7.isR
  have hr_rx : rx.isRef = true := Fj260_1052_8.isR
  refine own_stepW (f' := (own_G m i0 i1 i2 i3 i4 vb nn vk b5 b8 b11 ru rv rx b35 b37 .unset .unset .unset 274 [(.int nn)])) (fun _ k => XS.iload X260_1052.here hx rfl (hb hby at_272) rfl k) ?_
  refine own_stepW (f' := (own_G m i0 i1 i2 i3 i4 vb nn vk b5 b8 b11 ru rv rx b35 b37 .unset .unset .unset 275 [(.int (2 : Int32)), (.int nn)])) (fun _ k => XS.iconst X260_1052.here hx rfl (hb hby at_274) k) ?_
  have J275_1055 := own_J275_1055 l Z a0 hw h0 n0 p e s m below meth c hx hby hlk hml hown0 hZ0 hret i0 i1 i2 i3 i4 cz vb nn vk b5 b6 b8 b9 b11 b12 ru rv rx b35 y1_36 ky1_36 b37 b38 k38 T39 z0_1046 y1_1046 ky1_1046 y2_1046 ky2_1046 y3_1046 ky3_1046 sj245_1049 sj260_1052 hr_ru hr_rv hr_rx ne_b35_b37 g_b37 ne_b35_b38 hZ39 hown39 hS39 hb24 hn4 hbeg ne_b38_z0_1046 ne_b37_z0_1046 ne_b38_y1_1046 ne_b37_y1_1046 ne_b38_y2_1046 ne_b37_y2_1046 ne_b38_y3_1046 ne_b37_y3_1046 hD hv245_1049_0 hv260_1052_0
  by_cases hc275_1053 : (2 : Int32) < nn
  · refine own_stepW (f' := (own_G m i0 i1 i2 i3 i4 vb nn vk b5 b8 b11 ru rv rx b35 b37 .unset .unset .unset 278 [])) (fun _ k => XS.icmpNo X260_1052.here hx rfl (hb hby at_275) rfl (tlt hc275_1053).2.2.2 k) ?_
    refine own_stepW (f' := (own_G m i0 i1 i2 i3 i4 vb nn vk b5 b8 b11 ru rv rx b35 b37 .unset .unset .unset 280 [(.ref b35)])) (fun _ k => XS.aload X260_1052.here hx rfl (hb hby at_278) rfl rfl k) ?_
    refine own_stepW (f' := (own_G m i0 i1 i2 i3 i4 vb nn vk b5 b8 b11 ru rv rx b35 b37 .unset .unset .unset 282 [(.ref b11), (.ref b35)])) (fun _ k => XS.aload X260_1052.here hx rfl (hb hby at_280) rfl rfl k) ?_
    refine own_stepW (f' := (own_G m i0 i1 i2 i3 i4 vb nn vk b5 b8 b11 ru rv rx b35 b37 .unset .unset .unset 284 [rx, (.ref b11), (.ref b35)])) (fun _ k => XS.aload X260_1052.here hx rfl (hb hby at_282) rfl hr_rx k) ?_
    have hp2054_hD : own_Dis Z n0 b35 y1_36 z0_1046 y1_1046 y2_1046 y3_1046 ky1_36 ky1_1046 ky2_1046 ky3_1046 := hD
    have hp2054_hI : own_Inv Z hj260_1052 b35 y1_36 z0_1046 y1_1046 y2_1046 y3_1046 ky1_36 ky1_1046 ky2_1046 ky3_1046 sj260_1052 := hv260_1052_1
    have Zq2054 : n0 ≤ hj260_1052.size := Zj260_1052
    obtain ⟨cq2054, kq2054, q2054a, q2054b, q2054c⟩ := isOf hZ39 e260_1052 Fj260_1052_9
    obtain ⟨_, _, ⟨T2054, L2054, k2054, n2054⟩, -, X2054, ⟨Lc2054, hQ2054, l2054, y2054, z2054⟩, st2054⟩ := X260_1052.virtualBack hx (y := (⟨own_AC, "add", "(Lcom/example/valbonne/valbonne/codec/Name;Ljava/lang/String;)V"⟩ : MethodName)) (z := (⟨own_AC, "add", "(Lcom/example/valbonne/valbonne/codec/Name;Ljava/lang/String;)V"⟩ : MethodName)) hown39 (mvT hZ39 (own_w177 hw)) (mvT hZ39 (own_w178 hw)) (notFace_of_selects (args := #[]) (mvT hZ39 (own_w180 hw))) (mvT hZ39 (own_w180 hw)) (mvT hZ39 (own_w179 hw)) (by decide) (backOf (W := 0) (rm22b l Z a0 hw [] b35 b11 rx y1_36 z0_1046 y1_1046 y2_1046 y3_1046 ky1_36 ky1_1046 ky2_1046 ky3_1046 sj260_1052 hj260_1052 n0 Zq2054 Fj260_1052_8 Fj260_1052_4 hp2054_hD hp2054_hI) hZ39 (own_w181 hw) (own_w60 hw) (by decide) (by decide)) q2054a q2054c (g := (own_G m i0 i1 i2 i3 i4 vb nn vk b5 b8 b11 ru rv rx b35 b37 .unset .unset .unset 284 [rx, (.ref b11), (.ref b35)])) rfl (by rw [hml]; rfl) (Steps.refl _) (argsL := [(.ref b11), rx]) (rest := []) (lenOf pd_11 rfl) rfl (by show 2 * 0 + _ ≤ _; exact Nat.le_of_eq rfl) (hb hby at_284) (fun _ _ => ⟨rfl, e260_1052, (by decide : 34 + 0 ≤ _), (by decide : 262 + 0 ≤ _)⟩)
    dsimp only [Pt.U, Pt.locs, Pt.cells, Pt.slots] at X2054 l2054 y2054 z2054 st2054 hQ2054
    subst l2054 y2054 z2054
    obtain ⟨rfl, Nq2054, K2054, I2054⟩ := hQ2054
    obtain ⟨Lo2054, X2054, N2054⟩ : ∃ K, Stand p l e room_1 (s.setVm T39.vm) m #[(.int i0), (.int i1), (.int i2), (.int i3), (.int i4)] below meth c T2054 K 34 262 ∧ Fr n0 K := ⟨_, X2054, (Fr.app N260_1052 Nq2054)⟩
    refine own_jumpW (f' := (own_G m i0 i1 i2 i3 i4 vb nn vk b5 b8 b11 ru rv rx b35 b37 .unset .unset .unset 287 [])) st2054 ?_
    exact J275_1055 _ T2054.heap _ (own_add sj260_1052 b11 rx) (X2054.mono (by decide) (by decide)) rfl (N2054) ((Nat.le_trans Zj260_1052 K2054.1))  ((Nat.le_trans Ws260_1052 K2054.1)) ((Fj260_1052_0.keep K2054)) ((Fj260_1052_1.keep K2054)) ((Fj260_1052_2.keep K2054)) ((Fj260_1052_3.keep K2054)) ((Fj260_1052_4.keep K2054)) ((Fj260_1052_5.keep K2054)) ((Fj260_1052_6.keep K2054)) ((Fj260_1052_7.keep K2054)) ((Fj260_1052_8.keep K2054)) ((Fj260_1052_9.keep K2054)) ((Fj260_1052_11.keep K2054)) ((Fj260_1052_12.keep K2054 (ninS (Ne.symm ne_b35_b38) (ninS ne_b38_z0_1046 (ninS ne_b38_y2_1046 (ninS ne_b38_y3_1046 nin0)))))) ((Fj260_1052_13.keep K2054 (ninS (Ne.symm ne_b35_b37) (ninS ne_b37_z0_1046 (ninS ne_b37_y2_1046 (ninS ne_b37_y3_1046 nin0)))))) ((Fj260_1052_14.keep K2054 (ninS (Ne.symm ne_b35_b37) (ninS ne_b37_z0_1046 (ninS ne_b37_y2_1046 (ninS ne_b37_y3_1046 nin0)))))) ((Fj260_1052_15.keep K2054 (ninS (Ne.symm ne_b35_b37) (ninS ne_b37_z0_1046 (ninS ne_b37_y2_1046 (ninS ne_b37_y3_1046 nin0)))))) ((Fj260_1052_16.keep K2054 (ninS (Ne.symm ne_b35_b37) (ninS ne_b37_z0_1046 (ninS ne_b37_y2_1046 (ninS ne_b37_y3_1046 nin0)))))) ((Fj260_1052_17.keep K2054 (ninS (Ne.symm ne_b35_b37) (ninS ne_b37_z0_1046 (ninS ne_b37_y2_1046 (ninS ne_b37_y3_1046 nin0)))))) ((Fj260_1052_18.keep K2054)) (by rw [if_pos hc275_1053]) I2054
  · refine own_stepW (f' := (own_G m i0 i1 i2 i3 i4 vb nn vk b5 b8 b11 ru rv rx b35 b37 .unset .unset .unset 287 [])) (fun _ k => XS.icmpYes X260_1052.here hx rfl (pc0 := 275) (pc' := 287) rfl (hb hby at_275) rfl (flt hc275_1053).2.2.2 (by decide) (by decide) k) ?_
    exact J275_1055 _ hj260_1052 _ sj260_1052 (X260_1052.mono (by decide) (by decide)) e260_1052 (N260_1052) (Zj260_1052)  (Ws260_1052) (Fj260_1052_0) (Fj260_1052_1) (Fj260_1052_2) (Fj260_1052_3) (Fj260_1052_4) (Fj260_1052_5) (Fj260_1052_6) (Fj260_1052_7) (Fj260_1052_8) (Fj260_1052_9) (Fj260_1052_11) (Fj260_1052_12) (Fj260_1052_13) (Fj260_1052_14) (Fj260_1052_15) (Fj260_1052_16) (Fj260_1052_17) (Fj260_1052_18) (by rw [if_neg hc275_1053]) hv260_1052_1
set_option maxRecDepth 65536 in
set_option maxHeartbeats 40000000 in
theorem own_J245_1049 (l : Launch) (Z : State) (a0 : Array Value) (hw : own_HW a0 Z) (h0 : Heap) (n0 : Nat) (p : Program) (e : Env) (s : State) (m : MethodId) (below : List Frame) (meth : Method) (c : Code) (hx : p.tables.exec = Jvm.exec) (hby : c.code = code) (hlk : meth.locks = false) (hml : c.maxLocals = 19) (hown0 : s.vm.findClass "com/example/valbonne/valbonne/codec/AttributeCodingsAddPinLaw" = some m.cls) (hZ0 : Z.Warmed39 s.vm) (hret : meth.sig.returnType = some .boolean) (i0 : Int32) (i1 : Int32) (i2 : Int32) (i3 : Int32) (i4 : Int32) (cz : Int32) (vb : Int32) (nn : Int32) (vk : Int32) (b5 : Addr) (b6 : Addr) (b8 : Addr) (b9 : Addr) (b11 : Addr) (b12 : Addr) (ru : Value) (rv : Value) (rx : Value) (b35 : Addr) (y1_36 : Addr) (ky1_36 : ClassId) (b37 : Addr) (b38 : Addr) (k38 : ClassId) (T39 : State) (z0_1046 : Addr) (y1_1046 : Addr) (ky1_1046 : ClassId) (y2_1046 : Addr) (ky2_1046 : ClassId) (y3_1046 : Addr) (ky3_1046 : ClassId) (hr_ru : ru.isRef = true) (hr_rv : rv.isRef = true) (hr_rx : rx.isRef = true) (ne_b35_b37 : b35 ≠ b37) (g_b37 : n0 ≤ b37) (ne_b35_b38 : b35 ≠ b38) (hZ39 : Z.Warmed39 (s.setVm T39.vm).vm) (hown39 : (s.setVm T39.vm).vm.findClass "com/example/valbonne/valbonne/codec/AttributeCodingsAddPinLaw" = some m.cls) (hS39 : s.Since T39.vm T39.heap.size) (hb24 : vk = (0 : Int32) ∨ vk = (1 : Int32)) (hn4 : nn = (0 : Int32) ∨ nn = (1 : Int32) ∨ nn = (2 : Int32) ∨ nn = (3 : Int32)) (hbeg : vb = (1 : Int32)) (ne_b38_z0_1046 : b38 ≠ z0_1046) (ne_b37_z0_1046 : b37 ≠ z0_1046) (ne_b38_y1_1046 : b38 ≠ y1_1046) (ne_b37_y1_1046 : b37 ≠ y1_1046) (ne_b38_y2_1046 : b38 ≠ y2_1046) (ne_b37_y2_1046 : b37 ≠ y2_1046) (ne_b38_y3_1046 : b38 ≠ y3_1046) (ne_b37_y3_1046 : b37 ≠ y3_1046) (hD : own_Dis Z n0 b35 y1_36 z0_1046 y1_1046 y2_1046 y3_1046 ky1_36 ky1_1046 ky2_1046 ky3_1046) : ∀ (T245_1049 : State) (hj245_1049 : Heap) (Lj245_1049 : List Loc) (sj245_1049 : own_St), (Stand p l e room_1 (s.setVm T39.vm) m #[(.int i0), (.int i1), (.int i2), (.int i3), (.int i4)] below meth c T245_1049 Lj245_1049 34 262) → (T245_1049.heap = hj245_1049) → (Fr n0 Lj245_1049) → (n0 ≤ hj245_1049.size) → (T39.heap.size ≤ hj245_1049.size) → (Exa Z hj245_1049 b5 own_NM) → (Exa Z hj245_1049 b6 "java/lang/String") → (Exa Z hj245_1049 b8 own_NM) → (Exa Z hj245_1049 b9 "java/lang/String") → (Exa Z hj245_1049 b11 own_NM) → (Exa Z hj245_1049 b12 "java/lang/String") → (own_Opt Z hj245_1049 ru "java/lang/String") → (own_Opt Z hj245_1049 rv "java/lang/String") → (own_Opt Z hj245_1049 rx "java/lang/String") → (Exa Z hj245_1049 b35 own_AC) → (Exa Z hj245_1049 b37 own_SI) → (Arv Z hj245_1049 b38 k38 .byte (0 : Int32) [] (.int (0 : Int32))) → (Fld Z hj245_1049 b37 own_SI "bytes" "[B" (.ref b38)) → (Fld Z hj245_1049 b37 own_SI "limit" "I" (.int (0 : Int32))) → (Fld Z hj245_1049 b37 own_SI "pos" "I" (.int (0 : Int32))) → (Fld Z hj245_1049 b37 own_SI "offset" "J" (.long (0 : Int64))) → (Fld Z hj245_1049 b37 own_SI "attributePage" "I" (.int (0 : Int32))) → (Exa Z hj245_1049 z0_1046 own_CO) → (sj245_1049 = (if (0 : Int32) < nn then (own_add own_s0 b5 ru) else own_s0)) → (own_Inv Z hj245_1049 b35 y1_36 z0_1046 y1_1046 y2_1046 y3_1046 ky1_36 ky1_1046 ky2_1046 ky3_1046 sj245_1049) → own_GoesW p e below s (Q0 Z i0 i1 i2 i3 i4 cz h0 n0) room_1.cells room_1.slots T245_1049 (own_G m i0 i1 i2 i3 i4 vb nn vk b5 b8 b11 ru rv rx b35 b37 .unset .unset .unset 257 []) := by
  have hown := hown0
  have hZ := hZ0
  intro T245_1049 hj245_1049 Lj245_1049 sj245_1049 X245_1049 e245_1049 N245_1049 Zj245_1049 Ws245_1049 Fj245_1049_0 Fj245_1049_1 Fj245_1049_2 Fj245_1049_3 Fj245_1049_4 Fj245_1049_5 Fj245_1049_6 Fj245_1049_7 Fj245_1049_8 Fj245_1049_9 Fj245_1049_11 Fj245_1049_12 Fj245_1049_13 Fj245_1049_14 Fj245_1049_15 Fj245_1049_16 Fj245_1049_17 Fj245_1049_18 hv245_1049_0 hv245_1049_1
  have hr_ru : ru.isRef = true := Fj245_1049_6.isR
  have hr_rv : rv.isRef = true := Fj245_1049_7.isR
  have hr_rx : rx.isRef = true := Fj245_1049_8.isR
  refine own_stepW (f' := (own_G m i0 i1 i2 i3 i4 vb nn vk b5 b8 b11 ru rv rx b35 b37 .unset .unset .unset 259 [(.int nn)])) (fun _ k => XS.iload X245_1049.here hx rfl (hb hby at_257) rfl k) ?_
  refine own_stepW (f' := (own_G m i0 i1 i2 i3 i4 vb nn vk b5 b8 b11 ru rv rx b35 b37 .unset .unset .unset 260 [(.int (1 : Int32)), (.int nn)])) (fun _ k => XS.iconst X245_1049.here hx rfl (hb hby at_259) k) ?_
  have J260_1052 := own_J260_1052 l Z a0 hw h0 n0 p e s m below meth c hx hby hlk hml hown0 hZ0 hret i0 i1 i2 i3 i4 cz vb nn vk b5 b6 b8 b9 b11 b12 ru rv rx b35 y1_36 ky1_36 b37 b38 k38 T39 z0_1046 y1_1046 ky1_1046 y2_1046 ky2_1046 y3_1046 ky3_1046 sj245_1049 hr_ru hr_rv hr_rx ne_b35_b37 g_b37 ne_b35_b38 hZ39 hown39 hS39 hb24 hn4 hbeg ne_b38_z0_1046 ne_b37_z0_1046 ne_b38_y1_1046 ne_b37_y1_1046 ne_b38_y2_1046 ne_b37_y2_1046 ne_b38_y3_1046 ne_b37_y3_1046 hD hv245_1049_0
  by_cases hc260_1050 : (1 : Int32) < nn
  · refine own_stepW (f' := (own_G m i0 i1 i2 i3 i4 vb nn vk b5 b8 b11 ru rv rx b35 b37 .unset .unset .unset 263 [])) (fun _ k => XS.icmpNo X245_1049.here hx rfl (hb hby at_260) rfl (tlt hc260_1050).2.2.2 k) ?_
    refine own_stepW (f' := (own_G m i0 i1 i2 i3 i4 vb nn vk b5 b8 b11 ru rv rx b35 b37 .unset .unset .unset 265 [(.ref b35)])) (fun _ k => XS.aload X245_1049.here hx rfl (hb hby at_263) rfl rfl k) ?_
    refine own_stepW (f' := (own_G m i0 i1 i2 i3 i4 vb nn vk b5 b8 b11 ru rv rx b35 b37 .unset .unset .unset 267 [(.ref b8), (.ref b35)])) (fun _ k => XS.aload X245_1049.here hx rfl (hb hby at_265) rfl rfl k) ?_
    refine own_stepW (f' := (own_G m i0 i1 i2 i3 i4 vb nn vk b5 b8 b11 ru rv rx b35 b37 .unset .unset .unset 269 [rv, (.ref b8), (.ref b35)])) (fun _ k => XS.aload X245_1049.here hx rfl (hb hby at_267) rfl hr_rv k) ?_
    have hp2051_hD : own_Dis Z n0 b35 y1_36 z0_1046 y1_1046 y2_1046 y3_1046 ky1_36 ky1_1046 ky2_1046 ky3_1046 := hD
    have hp2051_hI : own_Inv Z hj245_1049 b35 y1_36 z0_1046 y1_1046 y2_1046 y3_1046 ky1_36 ky1_1046 ky2_1046 ky3_1046 sj245_1049 := hv245_1049_1
    have Zq2051 : n0 ≤ hj245_1049.size := Zj245_1049
    obtain ⟨cq2051, kq2051, q2051a, q2051b, q2051c⟩ := isOf hZ39 e245_1049 Fj245_1049_9
    obtain ⟨_, _, ⟨T2051, L2051, k2051, n2051⟩, -, X2051, ⟨Lc2051, hQ2051, l2051, y2051, z2051⟩, st2051⟩ := X245_1049.virtualBack hx (y := (⟨own_AC, "add", "(Lcom/example/valbonne/valbonne/codec/Name;Ljava/lang/String;)V"⟩ : MethodName)) (z := (⟨own_AC, "add", "(Lcom/example/valbonne/valbonne/codec/Name;Ljava/lang/String;)V"⟩ : MethodName)) hown39 (mvT hZ39 (own_w177 hw)) (mvT hZ39 (own_w178 hw)) (notFace_of_selects (args := #[]) (mvT hZ39 (own_w180 hw))) (mvT hZ39 (own_w180 hw)) (mvT hZ39 (own_w179 hw)) (by decide) (backOf (W := 0) (rm22b l Z a0 hw [] b35 b8 rv y1_36 z0_1046 y1_1046 y2_1046 y3_1046 ky1_36 ky1_1046 ky2_1046 ky3_1046 sj245_1049 hj245_1049 n0 Zq2051 Fj245_1049_7 Fj245_1049_2 hp2051_hD hp2051_hI) hZ39 (own_w181 hw) (own_w60 hw) (by decide) (by decide)) q2051a q2051c (g := (own_G m i0 i1 i2 i3 i4 vb nn vk b5 b8 b11 ru rv rx b35 b37 .unset .unset .unset 269 [rv, (.ref b8), (.ref b35)])) rfl (by rw [hml]; rfl) (Steps.refl _) (argsL := [(.ref b8), rv]) (rest := []) (lenOf pd_11 rfl) rfl (by show 2 * 0 + _ ≤ _; exact Nat.le_of_eq rfl) (hb hby at_269) (fun _ _ => ⟨rfl, e245_1049, (by decide : 34 + 0 ≤ _), (by decide : 262 + 0 ≤ _)⟩)
    dsimp only [Pt.U, Pt.locs, Pt.cells, Pt.slots] at X2051 l2051 y2051 z2051 st2051 hQ2051
    subst l2051 y2051 z2051
    obtain ⟨rfl, Nq2051, K2051, I2051⟩ := hQ2051
    obtain ⟨Lo2051, X2051, N2051⟩ : ∃ K, Stand p l e room_1 (s.setVm T39.vm) m #[(.int i0), (.int i1), (.int i2), (.int i3), (.int i4)] below meth c T2051 K 34 262 ∧ Fr n0 K := ⟨_, X2051, (Fr.app N245_1049 Nq2051)⟩
    refine own_jumpW (f' := (own_G m i0 i1 i2 i3 i4 vb nn vk b5 b8 b11 ru rv rx b35 b37 .unset .unset .unset 272 [])) st2051 ?_
    exact J260_1052 _ T2051.heap _ (own_add sj245_1049 b8 rv) (X2051.mono (by decide) (by decide)) rfl (N2051) ((Nat.le_trans Zj245_1049 K2051.1))  ((Nat.le_trans Ws245_1049 K2051.1)) ((Fj245_1049_0.keep K2051)) ((Fj245_1049_1.keep K2051)) ((Fj245_1049_2.keep K2051)) ((Fj245_1049_3.keep K2051)) ((Fj245_1049_4.keep K2051)) ((Fj245_1049_5.keep K2051)) ((Fj245_1049_6.keep K2051)) ((Fj245_1049_7.keep K2051)) ((Fj245_1049_8.keep K2051)) ((Fj245_1049_9.keep K2051)) ((Fj245_1049_11.keep K2051)) ((Fj245_1049_12.keep K2051 (ninS (Ne.symm ne_b35_b38) (ninS ne_b38_z0_1046 (ninS ne_b38_y2_1046 (ninS ne_b38_y3_1046 nin0)))))) ((Fj245_1049_13.keep K2051 (ninS (Ne.symm ne_b35_b37) (ninS ne_b37_z0_1046 (ninS ne_b37_y2_1046 (ninS ne_b37_y3_1046 nin0)))))) ((Fj245_1049_14.keep K2051 (ninS (Ne.symm ne_b35_b37) (ninS ne_b37_z0_1046 (ninS ne_b37_y2_1046 (ninS ne_b37_y3_1046 nin0)))))) ((Fj245_1049_15.keep K2051 (ninS (Ne.symm ne_b35_b37) (ninS ne_b37_z0_1046 (ninS ne_b37_y2_1046 (ninS ne_b37_y3_1046 nin0)))))) ((Fj245_1049_16.keep K2051 (ninS (Ne.symm ne_b35_b37) (ninS ne_b37_z0_1046 (ninS ne_b37_y2_1046 (ninS ne_b37_y3_1046 nin0)))))) ((Fj245_1049_17.keep K2051 (ninS (Ne.symm ne_b35_b37) (ninS ne_b37_z0_1046 (ninS ne_b37_y2_1046 (ninS ne_b37_y3_1046 nin0)))))) ((Fj245_1049_18.keep K2051)) (by rw [if_pos hc260_1050]) I2051
  · refine own_stepW (f' := (own_G m i0 i1 i2 i3 i4 vb nn vk b5 b8 b11 ru rv rx b35 b37 .unset .unset .unset 272 [])) (fun _ k => XS.icmpYes X245_1049.here hx rfl (pc0 := 260) (pc' := 272) rfl (hb hby at_260) rfl (flt hc260_1050).2.2.2 (by decide) (by decide) k) ?_
    exact J260_1052 _ hj245_1049 _ sj245_1049 (X245_1049.mono (by decide) (by decide)) e245_1049 (N245_1049) (Zj245_1049)  (Ws245_1049) (Fj245_1049_0) (Fj245_1049_1) (Fj245_1049_2) (Fj245_1049_3) (Fj245_1049_4) (Fj245_1049_5) (Fj245_1049_6) (Fj245_1049_7) (Fj245_1049_8) (Fj245_1049_9) (Fj245_1049_11) (Fj245_1049_12) (Fj245_1049_13) (Fj245_1049_14) (Fj245_1049_15) (Fj245_1049_16) (Fj245_1049_17) (Fj245_1049_18) (by rw [if_neg hc260_1050]) hv245_1049_1
set_option maxRecDepth 65536 in
set_option maxHeartbeats 40000000 in
theorem own_J229_1044 (l : Launch) (Z : State) (a0 : Array Value) (hw : own_HW a0 Z) (h0 : Heap) (n0 : Nat) (p : Program) (e : Env) (s : State) (m : MethodId) (below : List Frame) (meth : Method) (c : Code) (hx : p.tables.exec = Jvm.exec) (hby : c.code = code) (hlk : meth.locks = false) (hml : c.maxLocals = 19) (hown0 : s.vm.findClass "com/example/valbonne/valbonne/codec/AttributeCodingsAddPinLaw" = some m.cls) (hZ0 : Z.Warmed39 s.vm) (hret : meth.sig.returnType = some .boolean) (i0 : Int32) (i1 : Int32) (i2 : Int32) (i3 : Int32) (i4 : Int32) (cz : Int32) (vb : Int32) (nn : Int32) (vk : Int32) (b5 : Addr) (b6 : Addr) (b8 : Addr) (b9 : Addr) (b11 : Addr) (b12 : Addr) (ru : Value) (rv : Value) (rx : Value) (b35 : Addr) (y1_36 : Addr) (ky1_36 : ClassId) (b37 : Addr) (b38 : Addr) (k38 : ClassId) (T39 : State) (hr_ru : ru.isRef = true) (hr_rv : rv.isRef = true) (hr_rx : rx.isRef = true) (g_b35 : n0 ≤ b35) (g_y1_36 : n0 ≤ y1_36) (ne_b35_y1_36 : b35 ≠ y1_36) (P36_5 : Ovr Z ky1_36 own_CO) (ne_b35_b37 : b35 ≠ b37) (ne_y1_36_b37 : y1_36 ≠ b37) (g_b37 : n0 ≤ b37) (ne_b35_b38 : b35 ≠ b38) (ne_y1_36_b38 : y1_36 ≠ b38) (hZ39 : Z.Warmed39 (s.setVm T39.vm).vm) (hown39 : (s.setVm T39.vm).vm.findClass "com/example/valbonne/valbonne/codec/AttributeCodingsAddPinLaw" = some m.cls) (hS39 : s.Since T39.vm T39.heap.size) (hb24 : vk = (0 : Int32) ∨ vk = (1 : Int32)) (hn4 : nn = (0 : Int32) ∨ nn = (1 : Int32) ∨ nn = (2 : Int32) ∨ nn = (3 : Int32)) (hbeg : vb = (1 : Int32)) : ∀ (T229_1044 : State) (hj229_1044 : Heap) (Lj229_1044 : List Loc) , (Stand p l e room_1 (s.setVm T39.vm) m #[(.int i0), (.int i1), (.int i2), (.int i3), (.int i4)] below meth c T229_1044 Lj229_1044 30 156) → (T229_1044.heap = hj229_1044) → (Fr n0 Lj229_1044) → (n0 ≤ hj229_1044.size) → (T39.heap.size ≤ hj229_1044.size) → (Exa Z hj229_1044 b5 own_NM) → (Exa Z hj229_1044 b6 "java/lang/String") → (Exa Z hj229_1044 b8 own_NM) → (Exa Z hj229_1044 b9 "java/lang/String") → (Exa Z hj229_1044 b11 own_NM) → (Exa Z hj229_1044 b12 "java/lang/String") → (own_Opt Z hj229_1044 ru "java/lang/String") → (own_Opt Z hj229_1044 rv "java/lang/String") → (own_Opt Z hj229_1044 rx "java/lang/String") → (Exa Z hj229_1044 b35 own_AC) → (Fld Z hj229_1044 b35 own_AC "kept" "[Lcom/example/valbonne/valbonne/codec/AttributeCodings$Coding;" (.ref y1_36)) → (Fld Z hj229_1044 b35 own_AC "oldest" "I" (.int (0 : Int32))) → (Fld Z hj229_1044 b35 own_AC "reading" "Lcom/example/valbonne/valbonne/codec/AttributeCodings$Coding;" .null) → (Fld Z hj229_1044 b35 own_AC "readFrom" "J" (.long (0 : Int64))) → (Arv Z hj229_1044 y1_36 ky1_36 (.object own_CO) (16 : Int32) [.null, .null, .null, .null, .null, .null, .null, .null, .null, .null, .null, .null, .null, .null, .null, .null] .null) → (Exa Z hj229_1044 b37 own_SI) → (Arv Z hj229_1044 b38 k38 .byte (0 : Int32) [] (.int (0 : Int32))) → (Fld Z hj229_1044 b37 own_SI "bytes" "[B" (.ref b38)) → (Fld Z hj229_1044 b37 own_SI "limit" "I" (.int (0 : Int32))) → (Fld Z hj229_1044 b37 own_SI "pos" "I" (.int (0 : Int32))) → (Fld Z hj229_1044 b37 own_SI "offset" "J" (.long (0 : Int64))) → (Fld Z hj229_1044 b37 own_SI "attributePage" "I" (.int (0 : Int32))) → own_GoesW p e below s (Q0 Z i0 i1 i2 i3 i4 cz h0 n0) room_1.cells room_1.slots T229_1044 (own_G m i0 i1 i2 i3 i4 vb nn vk b5 b8 b11 ru rv rx b35 b37 .unset .unset .unset 229 []) := by
  have hown := hown0
  have hZ := hZ0
  intro T229_1044 hj229_1044 Lj229_1044  X229_1044 e229_1044 N229_1044 Zj229_1044 Ws229_1044 Fj229_1044_0 Fj229_1044_1 Fj229_1044_2 Fj229_1044_3 Fj229_1044_4 Fj229_1044_5 Fj229_1044_6 Fj229_1044_7 Fj229_1044_8 Fj229_1044_9 Fj229_1044_10 Fj229_1044_11 Fj229_1044_12 Fj229_1044_13 Fj229_1044_14 Fj229_1044_16 Fj229_1044_17 Fj229_1044_18 Fj229_1044_19 Fj229_1044_20 Fj229_1044_21 Fj229_1044_22
  have hr_ru : ru.isRef = true := Fj229_1044_6.isR
  have hr_rv : rv.isRef = true := Fj229_1044_7.isR
  have hr_rx : rx.isRef = true := Fj229_1044_8.isR
  refine own_stepW (f' := (own_G m i0 i1 i2 i3 i4 vb nn vk b5 b8 b11 ru rv rx b35 b37 .unset .unset .unset 231 [(.int vb)])) (fun _ k => XS.iload X229_1044.here hx rfl (hb hby at_229) rfl k) ?_
  have hf231_1045 : ¬ (vb = (0 : Int32)) := (by rw [hbeg] <;> decide)
  refine own_stepW (f' := (own_G m i0 i1 i2 i3 i4 vb nn vk b5 b8 b11 ru rv rx b35 b37 .unset .unset .unset 234 [])) (fun _ k => XS.ifNo X229_1044.here hx rfl (hb hby at_231) rfl ((if0 _ _).trans (feq hf231_1045).1) k) ?_
  refine own_stepW (f' := (own_G m i0 i1 i2 i3 i4 vb nn vk b5 b8 b11 ru rv rx b35 b37 .unset .unset .unset 236 [(.ref b35)])) (fun _ k => XS.aload X229_1044.here hx rfl (hb hby at_234) rfl rfl k) ?_
  refine own_stepW (f' := (own_G m i0 i1 i2 i3 i4 vb nn vk b5 b8 b11 ru rv rx b35 b37 .unset .unset .unset 238 [(.ref b37), (.ref b35)])) (fun _ k => XS.aload X229_1044.here hx rfl (hb hby at_236) rfl rfl k) ?_
  refine own_stepW (f' := (own_G m i0 i1 i2 i3 i4 vb nn vk b5 b8 b11 ru rv rx b35 b37 .unset .unset .unset 239 [.null, (.ref b37), (.ref b35)])) (fun _ k => XS.aconstNull X229_1044.here hx rfl (hb hby at_238) k) ?_
  refine own_stepW (f' := (own_G m i0 i1 i2 i3 i4 vb nn vk b5 b8 b11 ru rv rx b35 b37 .unset .unset .unset 240 [(.int (1 : Int32)), .null, (.ref b37), (.ref b35)])) (fun _ k => XS.iconst X229_1044.here hx rfl (hb hby at_239) k) ?_
  have Zq1046 : n0 ≤ hj229_1044.size := Zj229_1044
  obtain ⟨cq1046, kq1046, q1046a, q1046b, q1046c⟩ := isOf hZ39 e229_1044 Fj229_1044_9
  obtain ⟨_, _, ⟨T1046, L1046, k1046, n1046⟩, -, X1046, ⟨Lc1046, hQ1046, l1046, y1046, z1046⟩, st1046⟩ := X229_1044.virtualBack hx (y := (⟨own_AC, "begin", "(Lcom/example/valbonne/valbonne/codec/StreamInput;Lcom/example/valbonne/valbonne/codec/DeclaredAttributes;Z)V"⟩ : MethodName)) (z := (⟨own_AC, "begin", "(Lcom/example/valbonne/valbonne/codec/StreamInput;Lcom/example/valbonne/valbonne/codec/DeclaredAttributes;Z)V"⟩ : MethodName)) hown39 (mvT hZ39 (own_w140 hw)) (mvT hZ39 (own_w141 hw)) (notFace_of_selects (args := #[]) (mvT hZ39 (own_w143 hw))) (mvT hZ39 (own_w143 hw)) (mvT hZ39 (own_w142 hw)) (by decide) (backOf (W := 0) (rm19 l Z a0 hw [] b35 b37 y1_36 ky1_36 hj229_1044 n0 Zq1046 Fj229_1044_9 g_b35 g_y1_36 ne_b35_y1_36 ne_b35_b37 ne_y1_36_b37 Fj229_1044_14 P36_5 Fj229_1044_16 Fj229_1044_10 Fj229_1044_11 Fj229_1044_12 Fj229_1044_13 Fj229_1044_20 Fj229_1044_21 Fj229_1044_22) hZ39 (own_w144 hw) (own_w60 hw) (by decide) (by decide)) q1046a q1046c (g := (own_G m i0 i1 i2 i3 i4 vb nn vk b5 b8 b11 ru rv rx b35 b37 .unset .unset .unset 240 [(.int (1 : Int32)), .null, (.ref b37), (.ref b35)])) rfl (by rw [hml]; rfl) (Steps.refl _) (argsL := [(.ref b37), .null, (.int (1 : Int32))]) (rest := []) (lenOf pd_25 rfl) rfl (by show 2 * 0 + _ ≤ _; exact Nat.le_of_eq rfl) (hb hby at_240) (fun _ _ => ⟨rfl, e229_1044, (by decide : 30 + 4 ≤ _), (by decide : 156 + 106 ≤ _)⟩)
  dsimp only [Pt.U, Pt.locs, Pt.cells, Pt.slots] at X1046 l1046 y1046 z1046 st1046 hQ1046
  subst l1046 y1046 z1046
  obtain ⟨z0_1046, y1_1046, ky1_1046, y2_1046, ky2_1046, y3_1046, ky3_1046, rfl, Nq1046, K1046, g_z0_1046, sq_z0_1046, g_y1_1046, sq_y1_1046, ne_z0_1046_y1_1046, g_y2_1046, sq_y2_1046, ne_z0_1046_y2_1046, ne_y1_1046_y2_1046, g_y3_1046, sq_y3_1046, ne_z0_1046_y3_1046, ne_y1_1046_y3_1046, ne_y2_1046_y3_1046, P1046_0, P1046_1, P1046_2, P1046_3, P1046_4, P1046_5, P1046_6, P1046_7, P1046_8, P1046_9, P1046_10, P1046_11, P1046_12, P1046_13, P1046_14, P1046_15, P1046_16, P1046_17, P1046_18, P1046_19, P1046_20⟩ := hQ1046
  obtain ⟨Lo1046, X1046, N1046⟩ : ∃ K, Stand p l e room_1 (s.setVm T39.vm) m #[(.int i0), (.int i1), (.int i2), (.int i3), (.int i4)] below meth c T1046 K 34 262 ∧ Fr n0 K := ⟨_, X1046, (Fr.app N229_1044 Nq1046)⟩
  have ne_b35_z0_1046 : b35 ≠ z0_1046 := Nat.ne_of_lt (Nat.lt_of_lt_of_le Fj229_1044_10.lt sq_z0_1046)
  have ne_y1_36_z0_1046 : y1_36 ≠ z0_1046 := Nat.ne_of_lt (Nat.lt_of_lt_of_le Fj229_1044_14.lt sq_z0_1046)
  have ne_b38_z0_1046 : b38 ≠ z0_1046 := Nat.ne_of_lt (Nat.lt_of_lt_of_le Fj229_1044_17.lt sq_z0_1046)
  have ne_b37_z0_1046 : b37 ≠ z0_1046 := Nat.ne_of_lt (Nat.lt_of_lt_of_le Fj229_1044_18.lt sq_z0_1046)
  have ne_b35_y1_1046 : b35 ≠ y1_1046 := Nat.ne_of_lt (Nat.lt_of_lt_of_le Fj229_1044_10.lt sq_y1_1046)
  have ne_y1_36_y1_1046 : y1_36 ≠ y1_1046 := Nat.ne_of_lt (Nat.lt_of_lt_of_le Fj229_1044_14.lt sq_y1_1046)
  have ne_b38_y1_1046 : b38 ≠ y1_1046 := Nat.ne_of_lt (Nat.lt_of_lt_of_le Fj229_1044_17.lt sq_y1_1046)
  have ne_b37_y1_1046 : b37 ≠ y1_1046 := Nat.ne_of_lt (Nat.lt_of_lt_of_le Fj229_1044_18.lt sq_y1_1046)
  have ne_b35_y2_1046 : b35 ≠ y2_1046 := Nat.ne_of_lt (Nat.lt_of_lt_of_le Fj229_1044_10.lt sq_y2_1046)
  have ne_y1_36_y2_1046 : y1_36 ≠ y2_1046 := Nat.ne_of_lt (Nat.lt_of_lt_of_le Fj229_1044_14.lt sq_y2_1046)
  have ne_b38_y2_1046 : b38 ≠ y2_1046 := Nat.ne_of_lt (Nat.lt_of_lt_of_le Fj229_1044_17.lt sq_y2_1046)
  have ne_b37_y2_1046 : b37 ≠ y2_1046 := Nat.ne_of_lt (Nat.lt_of_lt_of_le Fj229_1044_18.lt sq_y2_1046)
  have ne_b35_y3_1046 : b35 ≠ y3_1046 := Nat.ne_of_lt (Nat.lt_of_lt_of_le Fj229_1044_10.lt sq_y3_1046)
  have ne_y1_36_y3_1046 : y1_36 ≠ y3_1046 := Nat.ne_of_lt (Nat.lt_of_lt_of_le Fj229_1044_14.lt sq_y3_1046)
  have ne_b38_y3_1046 : b38 ≠ y3_1046 := Nat.ne_of_lt (Nat.lt_of_lt_of_le Fj229_1044_17.lt sq_y3_1046)
  have ne_b37_y3_1046 : b37 ≠ y3_1046 := Nat.ne_of_lt (Nat.lt_of_lt_of_le Fj229_1044_18.lt sq_y3_1046)
  refine own_jumpW (f' := (own_G m i0 i1 i2 i3 i4 vb nn vk b5 b8 b11 ru rv rx b35 b37 .unset .unset .unset 243 [])) st1046 ?_
  have hD : own_Dis Z n0 b35 y1_36 z0_1046 y1_1046 y2_1046 y3_1046 ky1_36 ky1_1046 ky2_1046 ky3_1046 := ⟨g_b35, g_z0_1046, g_y2_1046, g_y3_1046, g_y1_1046, ne_b35_y1_36, ne_b35_z0_1046, ne_b35_y1_1046, ne_b35_y2_1046, ne_b35_y3_1046, ne_y1_36_z0_1046, ne_y1_36_y1_1046, ne_y1_36_y2_1046, ne_y1_36_y3_1046, ne_z0_1046_y1_1046, ne_z0_1046_y2_1046, ne_z0_1046_y3_1046, ne_y1_1046_y2_1046, ne_y1_1046_y3_1046, ne_y2_1046_y3_1046, P1046_18, P1046_20⟩
  have hI0 : own_Inv Z T1046.heap b35 y1_36 z0_1046 y1_1046 y2_1046 y3_1046 ky1_36 ky1_1046 ky2_1046 ky3_1046 own_s0 := ⟨(Fj229_1044_9.keep K1046), P1046_5, P1046_0, P1046_1, P1046_2, P1046_3, P1046_6, P1046_7, P1046_8, P1046_9, P1046_10, P1046_11, P1046_12, P1046_13, P1046_14, P1046_15, P1046_4, P1046_16, P1046_17, P1046_19, Nat.zero_le _, rfl, rfl⟩
  refine own_stepW (f' := (own_G m i0 i1 i2 i3 i4 vb nn vk b5 b8 b11 ru rv rx b35 b37 .unset .unset .unset 245 [(.int nn)])) (fun _ k => XS.iload X1046.here hx rfl (hb hby at_243) rfl k) ?_
  have J245_1049 := own_J245_1049 l Z a0 hw h0 n0 p e s m below meth c hx hby hlk hml hown0 hZ0 hret i0 i1 i2 i3 i4 cz vb nn vk b5 b6 b8 b9 b11 b12 ru rv rx b35 y1_36 ky1_36 b37 b38 k38 T39 z0_1046 y1_1046 ky1_1046 y2_1046 ky2_1046 y3_1046 ky3_1046 hr_ru hr_rv hr_rx ne_b35_b37 g_b37 ne_b35_b38 hZ39 hown39 hS39 hb24 hn4 hbeg ne_b38_z0_1046 ne_b37_z0_1046 ne_b38_y1_1046 ne_b37_y1_1046 ne_b38_y2_1046 ne_b37_y2_1046 ne_b38_y3_1046 ne_b37_y3_1046 hD
  by_cases hc245_1047 : (0 : Int32) < nn
  · refine own_stepW (f' := (own_G m i0 i1 i2 i3 i4 vb nn vk b5 b8 b11 ru rv rx b35 b37 .unset .unset .unset 248 [])) (fun _ k => XS.ifNo X1046.here hx rfl (hb hby at_245) rfl ((if0 _ _).trans (tlt hc245_1047).2.2.2) k) ?_
    refine own_stepW (f' := (own_G m i0 i1 i2 i3 i4 vb nn vk b5 b8 b11 ru rv rx b35 b37 .unset .unset .unset 250 [(.ref b35)])) (fun _ k => XS.aload X1046.here hx rfl (hb hby at_248) rfl rfl k) ?_
    refine own_stepW (f' := (own_G m i0 i1 i2 i3 i4 vb nn vk b5 b8 b11 ru rv rx b35 b37 .unset .unset .unset 252 [(.ref b5), (.ref b35)])) (fun _ k => XS.aload X1046.here hx rfl (hb hby at_250) rfl rfl k) ?_
    refine own_stepW (f' := (own_G m i0 i1 i2 i3 i4 vb nn vk b5 b8 b11 ru rv rx b35 b37 .unset .unset .unset 254 [ru, (.ref b5), (.ref b35)])) (fun _ k => XS.aload X1046.here hx rfl (hb hby at_252) rfl hr_ru k) ?_
    have hp2048_hD : own_Dis Z n0 b35 y1_36 z0_1046 y1_1046 y2_1046 y3_1046 ky1_36 ky1_1046 ky2_1046 ky3_1046 := hD
    have hp2048_hI : own_Inv Z T1046.heap b35 y1_36 z0_1046 y1_1046 y2_1046 y3_1046 ky1_36 ky1_1046 ky2_1046 ky3_1046 own_s0 := hI0
    have Zq2048 : n0 ≤ T1046.heap.size := (Nat.le_trans Zj229_1044 K1046.1)
    obtain ⟨cq2048, kq2048, q2048a, q2048b, q2048c⟩ := isOf hZ39 rfl (Fj229_1044_9.keep K1046)
    obtain ⟨_, _, ⟨T2048, L2048, k2048, n2048⟩, -, X2048, ⟨Lc2048, hQ2048, l2048, y2048, z2048⟩, st2048⟩ := X1046.virtualBack hx (y := (⟨own_AC, "add", "(Lcom/example/valbonne/valbonne/codec/Name;Ljava/lang/String;)V"⟩ : MethodName)) (z := (⟨own_AC, "add", "(Lcom/example/valbonne/valbonne/codec/Name;Ljava/lang/String;)V"⟩ : MethodName)) hown39 (mvT hZ39 (own_w177 hw)) (mvT hZ39 (own_w178 hw)) (notFace_of_selects (args := #[]) (mvT hZ39 (own_w180 hw))) (mvT hZ39 (own_w180 hw)) (mvT hZ39 (own_w179 hw)) (by decide) (backOf (W := 0) (rm22b l Z a0 hw [] b35 b5 ru y1_36 z0_1046 y1_1046 y2_1046 y3_1046 ky1_36 ky1_1046 ky2_1046 ky3_1046 own_s0 T1046.heap n0 Zq2048 (Fj229_1044_6.keep K1046) (Fj229_1044_0.keep K1046) hp2048_hD hp2048_hI) hZ39 (own_w181 hw) (own_w60 hw) (by decide) (by decide)) q2048a q2048c (g := (own_G m i0 i1 i2 i3 i4 vb nn vk b5 b8 b11 ru rv rx b35 b37 .unset .unset .unset 254 [ru, (.ref b5), (.ref b35)])) rfl (by rw [hml]; rfl) (Steps.refl _) (argsL := [(.ref b5), ru]) (rest := []) (lenOf pd_11 rfl) rfl (by show 2 * 0 + _ ≤ _; exact Nat.le_of_eq rfl) (hb hby at_254) (fun _ _ => ⟨rfl, rfl, (by decide : 34 + 0 ≤ _), (by decide : 262 + 0 ≤ _)⟩)
    dsimp only [Pt.U, Pt.locs, Pt.cells, Pt.slots] at X2048 l2048 y2048 z2048 st2048 hQ2048
    subst l2048 y2048 z2048
    obtain ⟨rfl, Nq2048, K2048, I2048⟩ := hQ2048
    obtain ⟨Lo2048, X2048, N2048⟩ : ∃ K, Stand p l e room_1 (s.setVm T39.vm) m #[(.int i0), (.int i1), (.int i2), (.int i3), (.int i4)] below meth c T2048 K 34 262 ∧ Fr n0 K := ⟨_, X2048, (Fr.app N1046 Nq2048)⟩
    refine own_jumpW (f' := (own_G m i0 i1 i2 i3 i4 vb nn vk b5 b8 b11 ru rv rx b35 b37 .unset .unset .unset 257 [])) st2048 ?_
    exact J245_1049 _ T2048.heap _ (own_add own_s0 b5 ru) (X2048.mono (by decide) (by decide)) rfl (N2048) ((Nat.le_trans (Nat.le_trans Zj229_1044 K1046.1) K2048.1))  ((Nat.le_trans (Nat.le_trans Ws229_1044 K1046.1) K2048.1)) (((Fj229_1044_0.keep K1046).keep K2048)) (((Fj229_1044_1.keep K1046).keep K2048)) (((Fj229_1044_2.keep K1046).keep K2048)) (((Fj229_1044_3.keep K1046).keep K2048)) (((Fj229_1044_4.keep K1046).keep K2048)) (((Fj229_1044_5.keep K1046).keep K2048)) (((Fj229_1044_6.keep K1046).keep K2048)) (((Fj229_1044_7.keep K1046).keep K2048)) (((Fj229_1044_8.keep K1046).keep K2048)) (((Fj229_1044_9.keep K1046).keep K2048)) (((Fj229_1044_16.keep K1046).keep K2048)) (((Fj229_1044_17.keep K1046 (ninS (Ne.symm ne_b35_b38) (ninS (Ne.symm ne_y1_36_b38) nin0))).keep K2048 (ninS (Ne.symm ne_b35_b38) (ninS ne_b38_z0_1046 (ninS ne_b38_y2_1046 (ninS ne_b38_y3_1046 nin0)))))) (((Fj229_1044_18.keep K1046 (ninS (Ne.symm ne_b35_b37) (ninS (Ne.symm ne_y1_36_b37) nin0))).keep K2048 (ninS (Ne.symm ne_b35_b37) (ninS ne_b37_z0_1046 (ninS ne_b37_y2_1046 (ninS ne_b37_y3_1046 nin0)))))) (((Fj229_1044_19.keep K1046 (ninS (Ne.symm ne_b35_b37) (ninS (Ne.symm ne_y1_36_b37) nin0))).keep K2048 (ninS (Ne.symm ne_b35_b37) (ninS ne_b37_z0_1046 (ninS ne_b37_y2_1046 (ninS ne_b37_y3_1046 nin0)))))) (((Fj229_1044_20.keep K1046 (ninS (Ne.symm ne_b35_b37) (ninS (Ne.symm ne_y1_36_b37) nin0))).keep K2048 (ninS (Ne.symm ne_b35_b37) (ninS ne_b37_z0_1046 (ninS ne_b37_y2_1046 (ninS ne_b37_y3_1046 nin0)))))) (((Fj229_1044_21.keep K1046 (ninS (Ne.symm ne_b35_b37) (ninS (Ne.symm ne_y1_36_b37) nin0))).keep K2048 (ninS (Ne.symm ne_b35_b37) (ninS ne_b37_z0_1046 (ninS ne_b37_y2_1046 (ninS ne_b37_y3_1046 nin0)))))) (((Fj229_1044_22.keep K1046 (ninS (Ne.symm ne_b35_b37) (ninS (Ne.symm ne_y1_36_b37) nin0))).keep K2048 (ninS (Ne.symm ne_b35_b37) (ninS ne_b37_z0_1046 (ninS ne_b37_y2_1046 (ninS ne_b37_y3_1046 nin0)))))) ((P1046_5.keep K2048)) (by rw [if_pos hc245_1047]) I2048
  · refine own_stepW (f' := (own_G m i0 i1 i2 i3 i4 vb nn vk b5 b8 b11 ru rv rx b35 b37 .unset .unset .unset 257 [])) (fun _ k => XS.ifYes X1046.here hx rfl (pc0 := 245) (pc' := 257) rfl (hb hby at_245) rfl ((if0 _ _).trans (flt hc245_1047).2.2.2) (by decide) (by decide) k) ?_
    exact J245_1049 _ T1046.heap _ own_s0 (X1046.mono (by decide) (by decide)) rfl (N1046) ((Nat.le_trans Zj229_1044 K1046.1))  ((Nat.le_trans Ws229_1044 K1046.1)) ((Fj229_1044_0.keep K1046)) ((Fj229_1044_1.keep K1046)) ((Fj229_1044_2.keep K1046)) ((Fj229_1044_3.keep K1046)) ((Fj229_1044_4.keep K1046)) ((Fj229_1044_5.keep K1046)) ((Fj229_1044_6.keep K1046)) ((Fj229_1044_7.keep K1046)) ((Fj229_1044_8.keep K1046)) ((Fj229_1044_9.keep K1046)) ((Fj229_1044_16.keep K1046)) ((Fj229_1044_17.keep K1046 (ninS (Ne.symm ne_b35_b38) (ninS (Ne.symm ne_y1_36_b38) nin0)))) ((Fj229_1044_18.keep K1046 (ninS (Ne.symm ne_b35_b37) (ninS (Ne.symm ne_y1_36_b37) nin0)))) ((Fj229_1044_19.keep K1046 (ninS (Ne.symm ne_b35_b37) (ninS (Ne.symm ne_y1_36_b37) nin0)))) ((Fj229_1044_20.keep K1046 (ninS (Ne.symm ne_b35_b37) (ninS (Ne.symm ne_y1_36_b37) nin0)))) ((Fj229_1044_21.keep K1046 (ninS (Ne.symm ne_b35_b37) (ninS (Ne.symm ne_y1_36_b37) nin0)))) ((Fj229_1044_22.keep K1046 (ninS (Ne.symm ne_b35_b37) (ninS (Ne.symm ne_y1_36_b37) nin0)))) (P1046_5) (by rw [if_neg hc245_1047]) hI0
set_option maxRecDepth 65536 in
set_option maxHeartbeats 40000000 in
theorem own_J179_34 (l : Launch) (Z : State) (a0 : Array Value) (hw : own_HW a0 Z) (h0 : Heap) (n0 : Nat) (p : Program) (e : Env) (s : State) (m : MethodId) (below : List Frame) (meth : Method) (c : Code) (hx : p.tables.exec = Jvm.exec) (hby : c.code = code) (hlk : meth.locks = false) (hml : c.maxLocals = 19) (hown0 : s.vm.findClass "com/example/valbonne/valbonne/codec/AttributeCodingsAddPinLaw" = some m.cls) (hZ0 : Z.Warmed39 s.vm) (hret : meth.sig.returnType = some .boolean) (i0 : Int32) (i1 : Int32) (i2 : Int32) (i3 : Int32) (i4 : Int32) (cz : Int32) (vb : Int32) (nn : Int32) (vk : Int32) (b5 : Addr) (b6 : Addr) (b8 : Addr) (b9 : Addr) (b11 : Addr) (b12 : Addr) (ru : Value) (rv : Value) (hv3_2_0 : vb = (if (i0 &&& (1 : Int32)) = (0 : Int32) then (0 : Int32) else (1 : Int32))) (hnn : nn = (((i0.toUInt32 >>> ((1 : Int32) &&& 31).toUInt32).toInt32) &&& (3 : Int32))) (hv24_4_0 : vk = (if (i0 &&& (8 : Int32)) = (0 : Int32) then (0 : Int32) else (1 : Int32))) (hr_ru : ru.isRef = true) (hr_rv : rv.isRef = true) : ∀ (T179_34 : State) (hj179_34 : Heap) (Lj179_34 : List Loc) (rx : Value), (Stand p l e room_1 s m #[(.int i0), (.int i1), (.int i2), (.int i3), (.int i4)] below meth c T179_34 Lj179_34 18 39) → (T179_34.heap = hj179_34) → (Fr n0 Lj179_34) → (n0 ≤ hj179_34.size) → (Sta Z hj179_34 "java/lang/String" "COMPACT_STRINGS" "Z" (.int cz)) → (Exa Z hj179_34 b5 own_NM) → (Exa Z hj179_34 b6 "java/lang/String") → (Exa Z hj179_34 b8 own_NM) → (Exa Z hj179_34 b9 "java/lang/String") → (Exa Z hj179_34 b11 own_NM) → (Exa Z hj179_34 b12 "java/lang/String") → (own_Opt Z hj179_34 ru "java/lang/String") → (own_Opt Z hj179_34 rv "java/lang/String") → (own_Opt Z hj179_34 rx "java/lang/String") → own_GoesW p e below s (Q0 Z i0 i1 i2 i3 i4 cz h0 n0) room_1.cells room_1.slots T179_34 (mkF m 206 #[.val (.int i0), .val (.int i1), .val (.int i2), .val (.int i3), .val (.int i4), .val (.int vb), .val (.int nn), .val (.int vk), .val (.ref b5), .val (.ref b8), .val (.ref b11), .val ru, .val rv, .unset, .unset, .unset, .unset, .unset, .unset] [rx]) := by
  have hown := hown0
  have hZ := hZ0
  intro T179_34 hj179_34 Lj179_34 rx X179_34 e179_34 N179_34 Zj179_34 Fj179_34_0 Fj179_34_1 Fj179_34_2 Fj179_34_3 Fj179_34_4 Fj179_34_5 Fj179_34_6 Fj179_34_7 Fj179_34_8 hv179_34_0
  have hr_rx : rx.isRef = true := hv179_34_0.isR
  have hr_ru : ru.isRef = true := Fj179_34_7.isR
  have hr_rv : rv.isRef = true := Fj179_34_8.isR
  refine own_stepW (f' := (mkF m 208 #[.val (.int i0), .val (.int i1), .val (.int i2), .val (.int i3), .val (.int i4), .val (.int vb), .val (.int nn), .val (.int vk), .val (.ref b5), .val (.ref b8), .val (.ref b11), .val ru, .val rv, .val rx, .unset, .unset, .unset, .unset, .unset] [])) (fun _ k => XS.astore X179_34.here hx rfl (hb hby at_206) rfl hr_rx (l' := #[.val (.int i0), .val (.int i1), .val (.int i2), .val (.int i3), .val (.int i4), .val (.int vb), .val (.int nn), .val (.int vk), .val (.ref b5), .val (.ref b8), .val (.ref b11), .val ru, .val rv, .val rx, .unset, .unset, .unset, .unset, .unset]) (by rcases hv179_34_0 with rfl | ⟨_, rfl, -⟩ <;> rfl) k) ?_
  obtain ⟨T35, h35, X35, e35, E35, A35, D35, -, st35⟩ := newO X179_34 hx hZ hown (own_w58 hw) (own_w59 hw) (own_w60 hw) e179_34 (g := (mkF m 208 #[.val (.int i0), .val (.int i1), .val (.int i2), .val (.int i3), .val (.int i4), .val (.int vb), .val (.int nn), .val (.int vk), .val (.ref b5), .val (.ref b8), .val (.ref b11), .val ru, .val rv, .val rx, .unset, .unset, .unset, .unset, .unset] [])) rfl (hb hby at_208) (by decide) (by decide)
  obtain ⟨b35, g35⟩ : ∃ z, z = hj179_34.size := ⟨_, rfl⟩
  rw [← g35] at A35 D35 st35
  have g_b35 : n0 ≤ b35 := Nat.le_trans Zj179_34 (Nat.le_of_eq g35.symm)
  have F_kept_b35 : Fld Z h35 b35 own_AC "kept" "[Lcom/example/valbonne/valbonne/codec/AttributeCodings$Coding;" .null := D35 (Or.inr (own_w68 hw)) own_fd_4
  have F_readFrom_b35 : Fld Z h35 b35 own_AC "readFrom" "J" (.long (0 : Int64)) := D35 (Or.inl (own_w125 hw)) own_fd_6
  have F_reading_b35 : Fld Z h35 b35 own_AC "reading" "Lcom/example/valbonne/valbonne/codec/AttributeCodings$Coding;" .null := D35 (Or.inl (own_w127 hw)) own_fd_5
  have F_oldest_b35 : Fld Z h35 b35 own_AC "oldest" "I" (.int (0 : Int32)) := D35 (Or.inl (own_w146 hw)) own_fd_2
  refine own_stepW (f' := (mkF m 211 #[.val (.int i0), .val (.int i1), .val (.int i2), .val (.int i3), .val (.int i4), .val (.int vb), .val (.int nn), .val (.int vk), .val (.ref b5), .val (.ref b8), .val (.ref b11), .val ru, .val rv, .val rx, .unset, .unset, .unset, .unset, .unset] [(.ref b35)])) st35 ?_
  refine own_stepW (f' := (mkF m 212 #[.val (.int i0), .val (.int i1), .val (.int i2), .val (.int i3), .val (.int i4), .val (.int vb), .val (.int nn), .val (.int vk), .val (.ref b5), .val (.ref b8), .val (.ref b11), .val ru, .val rv, .val rx, .unset, .unset, .unset, .unset, .unset] [(.ref b35), (.ref b35)])) (fun _ k => XS.dup X35.here hx rfl (hb hby at_211) rfl rfl k) ?_
  have Zq36 : n0 ≤ h35.size := (Nat.le_trans Zj179_34 E35.1)
  obtain ⟨_, _, ⟨T36, L36, k36, n36⟩, -, X36, ⟨Lc36, hQ36, l36, y36, z36⟩, st36⟩ := X35.specialBack hx (y := (⟨own_AC, "<init>", "()V"⟩ : MethodName)) rfl hown (mvT hZ (own_w61 hw)) (mvT hZ (own_w62 hw)) (mvT hZ (own_w63 hw)) (by decide) (backOf (W := 1) (rm12 l Z a0 hw [] b35 .null h35 n0 Zq36 A35 g_b35 F_kept_b35 F_oldest_b35 F_reading_b35 F_readFrom_b35) hZ (own_w63 hw) (own_w60 hw) (by decide) (by decide)) (g := (mkF m 212 #[.val (.int i0), .val (.int i1), .val (.int i2), .val (.int i3), .val (.int i4), .val (.int vb), .val (.int nn), .val (.int vk), .val (.ref b5), .val (.ref b8), .val (.ref b11), .val ru, .val rv, .val rx, .unset, .unset, .unset, .unset, .unset] [(.ref b35), (.ref b35)])) rfl (by rw [hml]; rfl) (Steps.refl _) (a := b35) (argsL := []) (rest := [(.ref b35)]) (lenOf pd_7 rfl) rfl (by show 2 * 0 + _ ≤ _; exact Nat.le_of_eq rfl) (hb hby at_212) (fun _ _ => ⟨rfl, e35, (by decide : 19 + 1 ≤ _), (by decide : 43 + 16 ≤ _)⟩)
  dsimp only [Pt.U, Pt.locs, Pt.cells, Pt.slots] at X36 l36 y36 z36 st36 hQ36
  subst l36 y36 z36
  obtain ⟨y1_36, ky1_36, rfl, Nq36, K36, g_y1_36, sq_y1_36, P36_0, P36_1, P36_2, P36_3, P36_4, P36_5⟩ := hQ36
  obtain ⟨Lo36, X36, N36⟩ : ∃ K, Stand p l e room_1 s m #[(.int i0), (.int i1), (.int i2), (.int i3), (.int i4)] below meth c T36 K 20 59 ∧ Fr n0 K := ⟨_, X36, (Fr.app N179_34 Nq36)⟩
  have ne_b35_y1_36 : b35 ≠ y1_36 := Nat.ne_of_lt (Nat.lt_of_lt_of_le F_kept_b35.lt sq_y1_36)
  refine own_jumpW (f' := (mkF m 215 #[.val (.int i0), .val (.int i1), .val (.int i2), .val (.int i3), .val (.int i4), .val (.int vb), .val (.int nn), .val (.int vk), .val (.ref b5), .val (.ref b8), .val (.ref b11), .val ru, .val rv, .val rx, .unset, .unset, .unset, .unset, .unset] [(.ref b35)])) st36 ?_
  refine own_stepW (f' := (mkF m 217 #[.val (.int i0), .val (.int i1), .val (.int i2), .val (.int i3), .val (.int i4), .val (.int vb), .val (.int nn), .val (.int vk), .val (.ref b5), .val (.ref b8), .val (.ref b11), .val ru, .val rv, .val rx, .val (.ref b35), .unset, .unset, .unset, .unset] [])) (fun _ k => XS.astore X36.here hx rfl (hb hby at_215) rfl rfl (l' := #[.val (.int i0), .val (.int i1), .val (.int i2), .val (.int i3), .val (.int i4), .val (.int vb), .val (.int nn), .val (.int vk), .val (.ref b5), .val (.ref b8), .val (.ref b11), .val ru, .val rv, .val rx, .val (.ref b35), .unset, .unset, .unset, .unset]) rfl k) ?_
  obtain ⟨T37, h37, X37, e37, E37, A37, D37, -, st37⟩ := newO X36 hx hZ hown (own_w69 hw) (own_w70 hw) (own_w71 hw) rfl (g := (mkF m 217 #[.val (.int i0), .val (.int i1), .val (.int i2), .val (.int i3), .val (.int i4), .val (.int vb), .val (.int nn), .val (.int vk), .val (.ref b5), .val (.ref b8), .val (.ref b11), .val ru, .val rv, .val rx, .val (.ref b35), .unset, .unset, .unset, .unset] [])) rfl (hb hby at_217) (by decide) (by decide)
  obtain ⟨b37, g37⟩ : ∃ z, z = T36.heap.size := ⟨_, rfl⟩
  rw [← g37] at A37 D37 st37
  have ne_b35_b37 : b35 ≠ b37 := Nat.ne_of_lt (Nat.lt_of_lt_of_le P36_0.lt (Nat.le_of_eq g37.symm))
  have ne_y1_36_b37 : y1_36 ≠ b37 := Nat.ne_of_lt (Nat.lt_of_lt_of_le P36_4.lt (Nat.le_of_eq g37.symm))
  have g_b37 : n0 ≤ b37 := Nat.le_trans (Nat.le_trans (Nat.le_trans Zj179_34 E35.1) K36.1) (Nat.le_of_eq g37.symm)
  have F_table_b37 : Fld Z h37 b37 own_SI "table" "[B" .null := D37 (Or.inl (own_w77 hw)) own_fd_0
  have F_literalNames_b37 : Fld Z h37 b37 own_SI "literalNames" "Lcom/example/valbonne/valbonne/codec/OffsetNames;" .null := D37 (Or.inr (own_w93 hw)) own_fd_12
  have F_source_b37 : Fld Z h37 b37 own_SI "source" "Ljava/io/InputStream;" .null := D37 (Or.inr (own_w95 hw)) own_fd_13
  have F_bytes_b37 : Fld Z h37 b37 own_SI "bytes" "[B" .null := D37 (Or.inl (own_w97 hw)) own_fd_0
  have F_limit_b37 : Fld Z h37 b37 own_SI "limit" "I" (.int (0 : Int32)) := D37 (Or.inl (own_w99 hw)) own_fd_2
  have F_where_b37 : Fld Z h37 b37 own_SI "where" "Ljava/lang/String;" .null := D37 (Or.inr (own_w104 hw)) own_fd_3
  have F_what_b37 : Fld Z h37 b37 own_SI "what" "Ljava/lang/String;" .null := D37 (Or.inr (own_w107 hw)) own_fd_3
  have F_header_b37 : Fld Z h37 b37 own_SI "header" "Lcom/example/valbonne/valbonne/codec/StreamInput;" .null := D37 (Or.inr (own_w109 hw)) own_fd_14
  have F_offset_b37 : Fld Z h37 b37 own_SI "offset" "J" (.long (0 : Int64)) := D37 (Or.inl (own_w121 hw)) own_fd_6
  have F_pos_b37 : Fld Z h37 b37 own_SI "pos" "I" (.int (0 : Int32)) := D37 (Or.inl (own_w123 hw)) own_fd_2
  have F_attributePage_b37 : Fld Z h37 b37 own_SI "attributePage" "I" (.int (0 : Int32)) := D37 (Or.inl (own_w139 hw)) own_fd_2
  refine own_stepW (f' := (mkF m 220 #[.val (.int i0), .val (.int i1), .val (.int i2), .val (.int i3), .val (.int i4), .val (.int vb), .val (.int nn), .val (.int vk), .val (.ref b5), .val (.ref b8), .val (.ref b11), .val ru, .val rv, .val rx, .val (.ref b35), .unset, .unset, .unset, .unset] [(.ref b37)])) st37 ?_
  refine own_stepW (f' := (mkF m 221 #[.val (.int i0), .val (.int i1), .val (.int i2), .val (.int i3), .val (.int i4), .val (.int vb), .val (.int nn), .val (.int vk), .val (.ref b5), .val (.ref b8), .val (.ref b11), .val ru, .val rv, .val rx, .val (.ref b35), .unset, .unset, .unset, .unset] [(.ref b37), (.ref b37)])) (fun _ k => XS.dup X37.here hx rfl (hb hby at_220) rfl rfl k) ?_
  refine own_stepW (f' := (mkF m 222 #[.val (.int i0), .val (.int i1), .val (.int i2), .val (.int i3), .val (.int i4), .val (.int vb), .val (.int nn), .val (.int vk), .val (.ref b5), .val (.ref b8), .val (.ref b11), .val ru, .val rv, .val rx, .val (.ref b35), .unset, .unset, .unset, .unset] [(.int (0 : Int32)), (.ref b37), (.ref b37)])) (fun _ k => XS.iconst X37.here hx rfl (hb hby at_221) k) ?_
  obtain ⟨T38, h38, k38, X38, e38, E38, A38, st38⟩ := newP X37 hx hZ (aty := .byte) (own_w17 hw) e37 (g := (mkF m 222 #[.val (.int i0), .val (.int i1), .val (.int i2), .val (.int i3), .val (.int i4), .val (.int vb), .val (.int nn), .val (.int vk), .val (.ref b5), .val (.ref b8), .val (.ref b11), .val ru, .val rv, .val rx, .val (.ref b35), .unset, .unset, .unset, .unset] [(.int (0 : Int32)), (.ref b37), (.ref b37)])) rfl (hb hby at_222) rfl (by decide) (cap := 0) (by decide) (by decide) (by decide) (by decide)
  obtain ⟨b38, g38⟩ : ∃ z, z = h37.size := ⟨_, rfl⟩
  rw [← g38] at A38 st38
  have ne_b35_b38 : b35 ≠ b38 := Nat.ne_of_lt (Nat.lt_of_lt_of_le (P36_0.ext E37).lt (Nat.le_of_eq g38.symm))
  have ne_y1_36_b38 : y1_36 ≠ b38 := Nat.ne_of_lt (Nat.lt_of_lt_of_le (P36_4.ext E37).lt (Nat.le_of_eq g38.symm))
  have ne_b37_b38 : b37 ≠ b38 := Nat.ne_of_lt (Nat.lt_of_lt_of_le F_table_b37.lt (Nat.le_of_eq g38.symm))
  have g_b38 : n0 ≤ b38 := Nat.le_trans (Nat.le_trans (Nat.le_trans (Nat.le_trans Zj179_34 E35.1) K36.1) E37.1) (Nat.le_of_eq g38.symm)
  have V_b38 : Arv Z h38 b38 k38 .byte (0 : Int32) [] (.int (0 : Int32)) := (Arv.new A38 (by decide)).pad (pad_rep [] (.int (0 : Int32)) 0)
  refine own_stepW (f' := (mkF m 224 #[.val (.int i0), .val (.int i1), .val (.int i2), .val (.int i3), .val (.int i4), .val (.int vb), .val (.int nn), .val (.int vk), .val (.ref b5), .val (.ref b8), .val (.ref b11), .val ru, .val rv, .val rx, .val (.ref b35), .unset, .unset, .unset, .unset] [(.ref b38), (.ref b37), (.ref b37)])) st38 ?_
  have Zq39 : n0 ≤ h38.size := (Nat.le_trans (Nat.le_trans (Nat.le_trans (Nat.le_trans Zj179_34 E35.1) K36.1) E37.1) E38.1)
  obtain ⟨_, _, ⟨T39, L39, k39, n39⟩, -, X39, hS39, hgr39, ⟨Lc39, hQ39, l39, y39, z39⟩, st39⟩ := X38.specialBackS hx (y := (⟨own_SI, "<init>", "([B)V"⟩ : MethodName)) rfl hown (mvT hZ (own_w72 hw)) (mvT hZ (own_w73 hw)) (mvT hZ (own_w74 hw)) (by decide) (Jvm.RoadKit.backOfS (W := 1) (rm13 l Z a0 hw [] b37 b38 .null .null .null .null .null .null .null k38 h38 n0 Zq39 (A37.ext E38) g_b37 ne_b37_b38 (F_table_b37.ext E38) (F_literalNames_b37.ext E38) (F_source_b37.ext E38) (F_bytes_b37.ext E38) (F_where_b37.ext E38) (F_what_b37.ext E38) (F_header_b37.ext E38) (F_limit_b37.ext E38) (F_pos_b37.ext E38) (F_offset_b37.ext E38) (F_attributePage_b37.ext E38) V_b38) hZ (own_w74 hw) (own_w71 hw) (by decide) (by decide)) (g := (mkF m 224 #[.val (.int i0), .val (.int i1), .val (.int i2), .val (.int i3), .val (.int i4), .val (.int vb), .val (.int nn), .val (.int vk), .val (.ref b5), .val (.ref b8), .val (.ref b11), .val ru, .val rv, .val rx, .val (.ref b35), .unset, .unset, .unset, .unset] [(.ref b38), (.ref b37), (.ref b37)])) rfl (by rw [hml]; rfl) (Steps.refl _) (a := b37) (argsL := [(.ref b38)]) (rest := [(.ref b37)]) (lenOf pd_21 rfl) rfl (by show 2 * 0 + _ ≤ _; exact Nat.le_of_eq rfl) (hb hby at_224) (fun _ _ => ⟨rfl, e38, (by decide : 22 + 8 ≤ _), (by decide : 73 + 83 ≤ _)⟩)
  dsimp only [Pt.U, Pt.locs, Pt.cells, Pt.slots] at hS39 hgr39 X39
  have hZ39 : Z.Warmed39 (s.setVm T39.vm).vm := State.Warmed39.trans (t := s) hZ hS39.1
  have hown39 : (s.setVm T39.vm).vm.findClass "com/example/valbonne/valbonne/codec/AttributeCodingsAddPinLaw" = some m.cls := by rw [show (s.setVm T39.vm).vm = T39.vm from rfl, hS39.1.alike.findClass]; exact hown
  dsimp only [Pt.U, Pt.locs, Pt.cells, Pt.slots] at l39 y39 z39 st39 hQ39
  subst l39 y39 z39
  obtain ⟨rfl, Nq39, K39, P39_0, P39_1, P39_2, P39_3, P39_4⟩ := hQ39
  obtain ⟨Lo39, X39, N39⟩ : ∃ K, Stand p l e room_1 (s.setVm T39.vm) m #[(.int i0), (.int i1), (.int i2), (.int i3), (.int i4)] below meth c T39 K 30 156 ∧ Fr n0 K := ⟨_, X39, (Fr.app N36 Nq39)⟩
  refine own_jumpW (f' := (mkF m 227 #[.val (.int i0), .val (.int i1), .val (.int i2), .val (.int i3), .val (.int i4), .val (.int vb), .val (.int nn), .val (.int vk), .val (.ref b5), .val (.ref b8), .val (.ref b11), .val ru, .val rv, .val rx, .val (.ref b35), .unset, .unset, .unset, .unset] [(.ref b37)])) st39 ?_
  refine own_stepW (f' := (own_G m i0 i1 i2 i3 i4 vb nn vk b5 b8 b11 ru rv rx b35 b37 .unset .unset .unset 229 [])) (fun _ k => XS.astore X39.here hx rfl (hb hby at_227) rfl rfl (l' := #[.val (.int i0), .val (.int i1), .val (.int i2), .val (.int i3), .val (.int i4), .val (.int vb), .val (.int nn), .val (.int vk), .val (.ref b5), .val (.ref b8), .val (.ref b11), .val ru, .val rv, .val rx, .val (.ref b35), .val (.ref b37), .unset, .unset, .unset]) rfl k) ?_
  have hb3 : vb = (0 : Int32) ∨ vb = (1 : Int32) := by rw [hv3_2_0]; split <;> first | exact Or.inl rfl | exact Or.inr rfl
  have hb24 : vk = (0 : Int32) ∨ vk = (1 : Int32) := by rw [hv24_4_0]; split <;> first | exact Or.inl rfl | exact Or.inr rfl
  have hn4 : nn = (0 : Int32) ∨ nn = (1 : Int32) ∨ nn = (2 : Int32) ∨ nn = (3 : Int32) := own_n4 _ _ hnn
  rcases hb3 with hbeg | hbeg
  · have J229_40 := own_J229_40 l Z a0 hw h0 n0 p e s m below meth c hx hby hlk hml hown0 hZ0 hret i0 i1 i2 i3 i4 cz vb nn vk b5 b6 b8 b9 b11 b12 ru rv rx b35 y1_36 ky1_36 b37 b38 k38 T39 hr_ru hr_rv hr_rx g_b35 ne_b35_y1_36 ne_b35_b37 hZ39 hown39 hS39 hbeg
    exact J229_40 _ T39.heap _  (X39.mono (by decide) (by decide)) rfl (N39) ((Nat.le_trans (Nat.le_trans (Nat.le_trans (Nat.le_trans (Nat.le_trans Zj179_34 E35.1) K36.1) E37.1) E38.1) K39.1))  ((Nat.le_refl T39.heap.size)) ((((((Fj179_34_1.ext E35).keep K36).ext E37).ext E38).keep K39)) ((((((Fj179_34_2.ext E35).keep K36).ext E37).ext E38).keep K39)) ((((((Fj179_34_3.ext E35).keep K36).ext E37).ext E38).keep K39)) ((((((Fj179_34_4.ext E35).keep K36).ext E37).ext E38).keep K39)) ((((((Fj179_34_5.ext E35).keep K36).ext E37).ext E38).keep K39)) ((((((Fj179_34_6.ext E35).keep K36).ext E37).ext E38).keep K39)) ((((((Fj179_34_7.ext E35).keep K36).ext E37).ext E38).keep K39)) ((((((Fj179_34_8.ext E35).keep K36).ext E37).ext E38).keep K39)) ((((((hv179_34_0.ext E35).keep K36).ext E37).ext E38).keep K39)) (((((A35.keep K36).ext E37).ext E38).keep K39)) ((((P36_0.ext E37).ext E38).keep K39 (ninS ne_b35_b37 nin0))) ((((P36_1.ext E37).ext E38).keep K39 (ninS ne_b35_b37 nin0))) ((((P36_2.ext E37).ext E38).keep K39 (ninS ne_b35_b37 nin0))) ((((P36_3.ext E37).ext E38).keep K39 (ninS ne_b35_b37 nin0))) ((((P36_4.ext E37).ext E38).keep K39 (ninS ne_y1_36_b37 nin0))) (((A37.ext E38).keep K39)) ((V_b38.keep K39 (ninS (Ne.symm ne_b37_b38) nin0))) (P39_0) (P39_1) (P39_2) (P39_3) (P39_4) 
  · have J229_1044 := own_J229_1044 l Z a0 hw h0 n0 p e s m below meth c hx hby hlk hml hown0 hZ0 hret i0 i1 i2 i3 i4 cz vb nn vk b5 b6 b8 b9 b11 b12 ru rv rx b35 y1_36 ky1_36 b37 b38 k38 T39 hr_ru hr_rv hr_rx g_b35 g_y1_36 ne_b35_y1_36 P36_5 ne_b35_b37 ne_y1_36_b37 g_b37 ne_b35_b38 ne_y1_36_b38 hZ39 hown39 hS39 hb24 hn4 hbeg
    exact J229_1044 _ T39.heap _  (X39.mono (by decide) (by decide)) rfl (N39) ((Nat.le_trans (Nat.le_trans (Nat.le_trans (Nat.le_trans (Nat.le_trans Zj179_34 E35.1) K36.1) E37.1) E38.1) K39.1))  ((Nat.le_refl T39.heap.size)) ((((((Fj179_34_1.ext E35).keep K36).ext E37).ext E38).keep K39)) ((((((Fj179_34_2.ext E35).keep K36).ext E37).ext E38).keep K39)) ((((((Fj179_34_3.ext E35).keep K36).ext E37).ext E38).keep K39)) ((((((Fj179_34_4.ext E35).keep K36).ext E37).ext E38).keep K39)) ((((((Fj179_34_5.ext E35).keep K36).ext E37).ext E38).keep K39)) ((((((Fj179_34_6.ext E35).keep K36).ext E37).ext E38).keep K39)) ((((((Fj179_34_7.ext E35).keep K36).ext E37).ext E38).keep K39)) ((((((Fj179_34_8.ext E35).keep K36).ext E37).ext E38).keep K39)) ((((((hv179_34_0.ext E35).keep K36).ext E37).ext E38).keep K39)) (((((A35.keep K36).ext E37).ext E38).keep K39)) ((((P36_0.ext E37).ext E38).keep K39 (ninS ne_b35_b37 nin0))) ((((P36_1.ext E37).ext E38).keep K39 (ninS ne_b35_b37 nin0))) ((((P36_2.ext E37).ext E38).keep K39 (ninS ne_b35_b37 nin0))) ((((P36_3.ext E37).ext E38).keep K39 (ninS ne_b35_b37 nin0))) ((((P36_4.ext E37).ext E38).keep K39 (ninS ne_y1_36_b37 nin0))) (((A37.ext E38).keep K39)) ((V_b38.keep K39 (ninS (Ne.symm ne_b37_b38) nin0))) (P39_0) (P39_1) (P39_2) (P39_3) (P39_4) 
set_option maxRecDepth 65536 in
set_option maxHeartbeats 40000000 in
theorem own_J142_27 (l : Launch) (Z : State) (a0 : Array Value) (hw : own_HW a0 Z) (h0 : Heap) (n0 : Nat) (p : Program) (e : Env) (s : State) (m : MethodId) (below : List Frame) (meth : Method) (c : Code) (hx : p.tables.exec = Jvm.exec) (hby : c.code = code) (hlk : meth.locks = false) (hml : c.maxLocals = 19) (hown0 : s.vm.findClass "com/example/valbonne/valbonne/codec/AttributeCodingsAddPinLaw" = some m.cls) (hZ0 : Z.Warmed39 s.vm) (hret : meth.sig.returnType = some .boolean) (i0 : Int32) (i1 : Int32) (i2 : Int32) (i3 : Int32) (i4 : Int32) (cz : Int32) (vb : Int32) (nn : Int32) (vk : Int32) (b5 : Addr) (b6 : Addr) (b8 : Addr) (b9 : Addr) (b11 : Addr) (b12 : Addr) (ru : Value) (hcz : ¬ cz = (0 : Int32)) (hv3_2_0 : vb = (if (i0 &&& (1 : Int32)) = (0 : Int32) then (0 : Int32) else (1 : Int32))) (hnn : nn = (((i0.toUInt32 >>> ((1 : Int32) &&& 31).toUInt32).toInt32) &&& (3 : Int32))) (hv24_4_0 : vk = (if (i0 &&& (8 : Int32)) = (0 : Int32) then (0 : Int32) else (1 : Int32))) (hr_ru : ru.isRef = true) : ∀ (T142_27 : State) (hj142_27 : Heap) (Lj142_27 : List Loc) (rv : Value), (Stand p l e room_1 s m #[(.int i0), (.int i1), (.int i2), (.int i3), (.int i4)] below meth c T142_27 Lj142_27 15 33) → (T142_27.heap = hj142_27) → (Fr n0 Lj142_27) → (n0 ≤ hj142_27.size) → (Sta Z hj142_27 "java/lang/String" "COMPACT_STRINGS" "Z" (.int cz)) → (Exa Z hj142_27 b5 own_NM) → (Exa Z hj142_27 b6 "java/lang/String") → (Exa Z hj142_27 b8 own_NM) → (Exa Z hj142_27 b9 "java/lang/String") → (Exa Z hj142_27 b11 own_NM) → (Exa Z hj142_27 b12 "java/lang/String") → (own_Opt Z hj142_27 ru "java/lang/String") → (own_Opt Z hj142_27 rv "java/lang/String") → own_GoesW p e below s (Q0 Z i0 i1 i2 i3 i4 cz h0 n0) room_1.cells room_1.slots T142_27 (mkF m 172 #[.val (.int i0), .val (.int i1), .val (.int i2), .val (.int i3), .val (.int i4), .val (.int vb), .val (.int nn), .val (.int vk), .val (.ref b5), .val (.ref b8), .val (.ref b11), .val ru, .unset, .unset, .unset, .unset, .unset, .unset, .unset] [rv]) := by
  have hown := hown0
  have hZ := hZ0
  intro T142_27 hj142_27 Lj142_27 rv X142_27 e142_27 N142_27 Zj142_27 Fj142_27_0 Fj142_27_1 Fj142_27_2 Fj142_27_3 Fj142_27_4 Fj142_27_5 Fj142_27_6 Fj142_27_7 hv142_27_0
  have hr_rv : rv.isRef = true := hv142_27_0.isR
  have hr_ru : ru.isRef = true := Fj142_27_7.isR
  refine own_stepW (f' := (mkF m 174 #[.val (.int i0), .val (.int i1), .val (.int i2), .val (.int i3), .val (.int i4), .val (.int vb), .val (.int nn), .val (.int vk), .val (.ref b5), .val (.ref b8), .val (.ref b11), .val ru, .val rv, .unset, .unset, .unset, .unset, .unset, .unset] [])) (fun _ k => XS.astore X142_27.here hx rfl (hb hby at_172) rfl hr_rv (l' := #[.val (.int i0), .val (.int i1), .val (.int i2), .val (.int i3), .val (.int i4), .val (.int vb), .val (.int nn), .val (.int vk), .val (.ref b5), .val (.ref b8), .val (.ref b11), .val ru, .val rv, .unset, .unset, .unset, .unset, .unset, .unset]) (by rcases hv142_27_0 with rfl | ⟨_, rfl, -⟩ <;> rfl) k) ?_
  refine own_stepW (f' := (mkF m 176 #[.val (.int i0), .val (.int i1), .val (.int i2), .val (.int i3), .val (.int i4), .val (.int vb), .val (.int nn), .val (.int vk), .val (.ref b5), .val (.ref b8), .val (.ref b11), .val ru, .val rv, .unset, .unset, .unset, .unset, .unset, .unset] [(.int i4)])) (fun _ k => XS.iload X142_27.here hx rfl (hb hby at_174) rfl k) ?_
  refine own_stepW (f' := (mkF m 178 #[.val (.int i0), .val (.int i1), .val (.int i2), .val (.int i3), .val (.int i4), .val (.int vb), .val (.int nn), .val (.int vk), .val (.ref b5), .val (.ref b8), .val (.ref b11), .val ru, .val rv, .unset, .unset, .unset, .unset, .unset, .unset] [(.int (67108864 : Int32)), (.int i4)])) (fun _ k => X142_27.ldcInt hx hown (mvT hZ (own_w57 hw)) (g := (mkF m 176 #[.val (.int i0), .val (.int i1), .val (.int i2), .val (.int i3), .val (.int i4), .val (.int vb), .val (.int nn), .val (.int vk), .val (.ref b5), .val (.ref b8), .val (.ref b11), .val ru, .val rv, .unset, .unset, .unset, .unset, .unset, .unset] [(.int i4)])) rfl (hb hby at_176) _ k) ?_
  refine own_stepW (f' := (mkF m 179 #[.val (.int i0), .val (.int i1), .val (.int i2), .val (.int i3), .val (.int i4), .val (.int vb), .val (.int nn), .val (.int vk), .val (.ref b5), .val (.ref b8), .val (.ref b11), .val ru, .val rv, .unset, .unset, .unset, .unset, .unset, .unset] [(.int (i4 &&& (67108864 : Int32)))])) (fun _ k => XS.iand X142_27.here hx rfl (hb hby at_178) rfl k) ?_
  have J179_34 := own_J179_34 l Z a0 hw h0 n0 p e s m below meth c hx hby hlk hml hown0 hZ0 hret i0 i1 i2 i3 i4 cz vb nn vk b5 b6 b8 b9 b11 b12 ru rv hv3_2_0 hnn hv24_4_0 hr_ru hr_rv
  by_cases hc179_28 : (i4 &&& (67108864 : Int32)) = (0 : Int32)
  · refine own_stepW (f' := (mkF m 186 #[.val (.int i0), .val (.int i1), .val (.int i2), .val (.int i3), .val (.int i4), .val (.int vb), .val (.int nn), .val (.int vk), .val (.ref b5), .val (.ref b8), .val (.ref b11), .val ru, .val rv, .unset, .unset, .unset, .unset, .unset, .unset] [])) (fun _ k => XS.ifYes X142_27.here hx rfl (pc0 := 179) (pc' := 186) rfl (hb hby at_179) rfl ((if0 _ _).trans (teq hc179_28).1) (by decide) (by decide) k) ?_
    obtain ⟨T1029, h1029, X1029, e1029, E1029, A1029, D1029, -, st1029⟩ := newO X142_27 hx hZ hown (own_w38 hw) (own_w13 hw) (own_w5 hw) e142_27 (g := (mkF m 186 #[.val (.int i0), .val (.int i1), .val (.int i2), .val (.int i3), .val (.int i4), .val (.int vb), .val (.int nn), .val (.int vk), .val (.ref b5), .val (.ref b8), .val (.ref b11), .val ru, .val rv, .unset, .unset, .unset, .unset, .unset, .unset] [])) rfl (hb hby at_186) (by decide) (by decide)
    obtain ⟨b1029, g1029⟩ : ∃ z, z = hj142_27.size := ⟨_, rfl⟩
    rw [← g1029] at A1029 D1029 st1029
    have g_b1029 : n0 ≤ b1029 := Nat.le_trans Zj142_27 (Nat.le_of_eq g1029.symm)
    have F_value_b1029 : Fld Z h1029 b1029 "java/lang/String" "value" "[B" .null := D1029 (Or.inr (own_w26 hw)) own_fd_0
    have F_coder_b1029 : Fld Z h1029 b1029 "java/lang/String" "coder" "B" (.int (0 : Int32)) := D1029 (Or.inr (own_w28 hw)) own_fd_1
    refine own_stepW (f' := (mkF m 189 #[.val (.int i0), .val (.int i1), .val (.int i2), .val (.int i3), .val (.int i4), .val (.int vb), .val (.int nn), .val (.int vk), .val (.ref b5), .val (.ref b8), .val (.ref b11), .val ru, .val rv, .unset, .unset, .unset, .unset, .unset, .unset] [(.ref b1029)])) st1029 ?_
    refine own_stepW (f' := (mkF m 190 #[.val (.int i0), .val (.int i1), .val (.int i2), .val (.int i3), .val (.int i4), .val (.int vb), .val (.int nn), .val (.int vk), .val (.ref b5), .val (.ref b8), .val (.ref b11), .val ru, .val rv, .unset, .unset, .unset, .unset, .unset, .unset] [(.ref b1029), (.ref b1029)])) (fun _ k => XS.dup X1029.here hx rfl (hb hby at_189) rfl rfl k) ?_
    refine own_stepW (f' := (mkF m 191 #[.val (.int i0), .val (.int i1), .val (.int i2), .val (.int i3), .val (.int i4), .val (.int vb), .val (.int nn), .val (.int vk), .val (.ref b5), .val (.ref b8), .val (.ref b11), .val ru, .val rv, .unset, .unset, .unset, .unset, .unset, .unset] [(.int (1 : Int32)), (.ref b1029), (.ref b1029)])) (fun _ k => XS.iconst X1029.here hx rfl (hb hby at_190) k) ?_
    obtain ⟨T1030, h1030, k1030, X1030, e1030, E1030, A1030, st1030⟩ := newP X1029 hx hZ (aty := .char) (own_w39 hw) e1029 (g := (mkF m 191 #[.val (.int i0), .val (.int i1), .val (.int i2), .val (.int i3), .val (.int i4), .val (.int vb), .val (.int nn), .val (.int vk), .val (.ref b5), .val (.ref b8), .val (.ref b11), .val ru, .val rv, .unset, .unset, .unset, .unset, .unset, .unset] [(.int (1 : Int32)), (.ref b1029), (.ref b1029)])) rfl (hb hby at_191) rfl (by decide) (cap := 1) (by decide) (by decide) (by decide) (by decide)
    obtain ⟨b1030, g1030⟩ : ∃ z, z = h1029.size := ⟨_, rfl⟩
    rw [← g1030] at A1030 st1030
    have ne_b1029_b1030 : b1029 ≠ b1030 := Nat.ne_of_lt (Nat.lt_of_lt_of_le F_value_b1029.lt (Nat.le_of_eq g1030.symm))
    have g_b1030 : n0 ≤ b1030 := Nat.le_trans (Nat.le_trans Zj142_27 E1029.1) (Nat.le_of_eq g1030.symm)
    have V_b1030 : Arv Z h1030 b1030 k1030 .char (1 : Int32) [(.int (0 : Int32))] (.int (0 : Int32)) := (Arv.new A1030 (by decide)).pad (pad_rep [] (.int (0 : Int32)) 1)
    refine own_stepW (f' := (mkF m 193 #[.val (.int i0), .val (.int i1), .val (.int i2), .val (.int i3), .val (.int i4), .val (.int vb), .val (.int nn), .val (.int vk), .val (.ref b5), .val (.ref b8), .val (.ref b11), .val ru, .val rv, .unset, .unset, .unset, .unset, .unset, .unset] [(.ref b1030), (.ref b1029), (.ref b1029)])) st1030 ?_
    refine own_stepW (f' := (mkF m 194 #[.val (.int i0), .val (.int i1), .val (.int i2), .val (.int i3), .val (.int i4), .val (.int vb), .val (.int nn), .val (.int vk), .val (.ref b5), .val (.ref b8), .val (.ref b11), .val ru, .val rv, .unset, .unset, .unset, .unset, .unset, .unset] [(.ref b1030), (.ref b1030), (.ref b1029), (.ref b1029)])) (fun _ k => XS.dup X1030.here hx rfl (hb hby at_193) rfl rfl k) ?_
    refine own_stepW (f' := (mkF m 195 #[.val (.int i0), .val (.int i1), .val (.int i2), .val (.int i3), .val (.int i4), .val (.int vb), .val (.int nn), .val (.int vk), .val (.ref b5), .val (.ref b8), .val (.ref b11), .val ru, .val rv, .unset, .unset, .unset, .unset, .unset, .unset] [(.int (0 : Int32)), (.ref b1030), (.ref b1030), (.ref b1029), (.ref b1029)])) (fun _ k => XS.iconst X1030.here hx rfl (hb hby at_194) k) ?_
    refine own_stepW (f' := (mkF m 197 #[.val (.int i0), .val (.int i1), .val (.int i2), .val (.int i3), .val (.int i4), .val (.int vb), .val (.int nn), .val (.int vk), .val (.ref b5), .val (.ref b8), .val (.ref b11), .val ru, .val rv, .unset, .unset, .unset, .unset, .unset, .unset] [(.int i4), (.int (0 : Int32)), (.ref b1030), (.ref b1030), (.ref b1029), (.ref b1029)])) (fun _ k => XS.iload X1030.here hx rfl (hb hby at_195) rfl k) ?_
    refine own_stepW (f' := (mkF m 200 #[.val (.int i0), .val (.int i1), .val (.int i2), .val (.int i3), .val (.int i4), .val (.int vb), .val (.int nn), .val (.int vk), .val (.ref b5), .val (.ref b8), .val (.ref b11), .val ru, .val rv, .unset, .unset, .unset, .unset, .unset, .unset] [(.int (255 : Int32)), (.int i4), (.int (0 : Int32)), (.ref b1030), (.ref b1030), (.ref b1029), (.ref b1029)])) (fun _ k => XS.sipush X1030.here hx rfl (hb hby at_197) k) ?_
    refine own_stepW (f' := (mkF m 201 #[.val (.int i0), .val (.int i1), .val (.int i2), .val (.int i3), .val (.int i4), .val (.int vb), .val (.int nn), .val (.int vk), .val (.ref b5), .val (.ref b8), .val (.ref b11), .val ru, .val rv, .unset, .unset, .unset, .unset, .unset, .unset] [(.int (i4 &&& (255 : Int32))), (.int (0 : Int32)), (.ref b1030), (.ref b1030), (.ref b1029), (.ref b1029)])) (fun _ k => XS.iand X1030.here hx rfl (hb hby at_200) rfl k) ?_
    refine own_stepW (f' := (mkF m 202 #[.val (.int i0), .val (.int i1), .val (.int i2), .val (.int i3), .val (.int i4), .val (.int vb), .val (.int nn), .val (.int vk), .val (.ref b5), .val (.ref b8), .val (.ref b11), .val ru, .val rv, .unset, .unset, .unset, .unset, .unset, .unset] [(.int ((i4 &&& (255 : Int32)).toUInt32.toUInt16.toUInt32.toInt32)), (.int (0 : Int32)), (.ref b1030), (.ref b1030), (.ref b1029), (.ref b1029)])) (fun _ k => XS.i2c X1030.here hx rfl (hb hby at_201) rfl k) ?_
    obtain ⟨cl1031, Ar1031, qa1031, Sa1031, Na1031, Ha1031, Ga1031⟩ := id (V_b1030)
    have hin1032 : ¬ ((0 : Int32) < 0 ∨ cl1031.slots.size ≤ ((0 : Int32)).toNatClampNeg) := inb_of Sa1031 ⟨by decide, by decide⟩
    obtain ⟨T1032, h1032, X1032, e1032, W1032, st1032⟩ := stC X1030 hx hZ e1030 Ar1031 (j := (0 : Int32)) hin1032 (g := (mkF m 202 #[.val (.int i0), .val (.int i1), .val (.int i2), .val (.int i3), .val (.int i4), .val (.int vb), .val (.int nn), .val (.int vk), .val (.ref b5), .val (.ref b8), .val (.ref b11), .val ru, .val rv, .unset, .unset, .unset, .unset, .unset, .unset] [(.int ((i4 &&& (255 : Int32)).toUInt32.toUInt16.toUInt32.toInt32)), (.int (0 : Int32)), (.ref b1030), (.ref b1030), (.ref b1029), (.ref b1029)])) rfl rfl (hb hby at_202)
    have V1032 : Arv Z h1032 b1030 k1030 .char (1 : Int32) [(.int (nar .char ((i4 &&& (255 : Int32)).toUInt32.toUInt16.toUInt32.toInt32)))] (.int (0 : Int32)) := Arv.set Ar1031 qa1031 Sa1031 Na1031 Ha1031 Ga1031 (fits_nar_char _) W1032 0 rfl (Nat.le_of_ble_eq_true rfl)
    obtain ⟨Lo1032, X1032, N1032⟩ : ∃ K, Stand p l e room_1 s m #[(.int i0), (.int i1), (.int i2), (.int i3), (.int i4)] below meth c T1032 K 17 38 ∧ Fr n0 K := ⟨_, X1032, (Fr.snoc X1032 N142_27 g_b1030)⟩
    refine own_stepW (f' := (mkF m 203 #[.val (.int i0), .val (.int i1), .val (.int i2), .val (.int i3), .val (.int i4), .val (.int vb), .val (.int nn), .val (.int vk), .val (.ref b5), .val (.ref b8), .val (.ref b11), .val ru, .val rv, .unset, .unset, .unset, .unset, .unset, .unset] [(.ref b1030), (.ref b1029), (.ref b1029)])) st1032 ?_
    have hp1033_hcz : ¬ cz = (0 : Int32) := hcz
    have hp1033_hq : ¬ (255 : Int32) < (nar .char ((i4 &&& (255 : Int32)).toUInt32.toUInt16.toUInt32.toInt32)) := own_n255 _
    have Zq1033 : n0 ≤ h1032.size := (Nat.le_trans (Nat.le_trans (Nat.le_trans Zj142_27 E1029.1) E1030.1) (Nat.le_of_eq W1032.size.symm))
    obtain ⟨_, _, ⟨T1033, L1033, k1033, n1033⟩, -, X1033, ⟨Lc1033, hQ1033, l1033, y1033, z1033⟩, st1033⟩ := X1032.specialBack hx (y := (⟨"java/lang/String", "<init>", "([C)V"⟩ : MethodName)) rfl hown (mvT hZ (own_w40 hw)) (mvT hZ (own_w41 hw)) (mvT hZ (own_w42 hw)) (by decide) (backOf (W := 1) (rm7 l Z a0 hw [] b1029 b1030 .null (.int (0 : Int32)) k1030 (nar .char ((i4 &&& (255 : Int32)).toUInt32.toUInt16.toUInt32.toInt32)) cz h1032 n0 Zq1033 ((A1029.ext E1030).wr W1032) ((F_value_b1029.ext E1030).other W1032 (Or.inl ne_b1029_b1030)) ((F_coder_b1029.ext E1030).other W1032 (Or.inl ne_b1029_b1030)) g_b1029 V1032 (Ne.symm ne_b1029_b1030) (((Fj142_27_0.ext E1029).ext E1030).wr W1032) hp1033_hcz hp1033_hq) hZ (own_w42 hw) (own_w5 hw) (by decide) (by decide)) (g := (mkF m 203 #[.val (.int i0), .val (.int i1), .val (.int i2), .val (.int i3), .val (.int i4), .val (.int vb), .val (.int nn), .val (.int vk), .val (.ref b5), .val (.ref b8), .val (.ref b11), .val ru, .val rv, .unset, .unset, .unset, .unset, .unset, .unset] [(.ref b1030), (.ref b1029), (.ref b1029)])) rfl (by rw [hml]; rfl) (Steps.refl _) (a := b1029) (argsL := [(.ref b1030)]) (rest := [(.ref b1029)]) (lenOf pd_20 rfl) rfl (by show 2 * 0 + _ ≤ _; exact Nat.le_of_eq rfl) (hb hby at_203) (fun _ _ => ⟨rfl, e1032, (by decide : 17 + 1 ≤ _), (by decide : 38 + 1 ≤ _)⟩)
    dsimp only [Pt.U, Pt.locs, Pt.cells, Pt.slots] at X1033 l1033 y1033 z1033 st1033 hQ1033
    subst l1033 y1033 z1033
    obtain ⟨rfl, Nq1033, K1033, P1033_0⟩ := hQ1033
    obtain ⟨Lo1033, X1033, N1033⟩ : ∃ K, Stand p l e room_1 s m #[(.int i0), (.int i1), (.int i2), (.int i3), (.int i4)] below meth c T1033 K 18 39 ∧ Fr n0 K := ⟨_, X1033, (Fr.app N1032 Nq1033)⟩
    refine own_jumpW (f' := (mkF m 206 #[.val (.int i0), .val (.int i1), .val (.int i2), .val (.int i3), .val (.int i4), .val (.int vb), .val (.int nn), .val (.int vk), .val (.ref b5), .val (.ref b8), .val (.ref b11), .val ru, .val rv, .unset, .unset, .unset, .unset, .unset, .unset] [(.ref b1029)])) st1033 ?_
    exact J179_34 _ T1033.heap _ (.ref b1029) (X1033.mono (by decide) (by decide)) rfl (N1033) ((Nat.le_trans (Nat.le_trans (Nat.le_trans (Nat.le_trans Zj142_27 E1029.1) E1030.1) (Nat.le_of_eq W1032.size.symm)) K1033.1))  ((own_staKeep (((Fj142_27_0.ext E1029).ext E1030).wr W1032) K1033 (allS (own_exaNS ((A1029.ext E1030).wr W1032)) all0))) (((((Fj142_27_1.ext E1029).ext E1030).wr W1032).keep K1033)) (((((Fj142_27_2.ext E1029).ext E1030).wr W1032).keep K1033)) (((((Fj142_27_3.ext E1029).ext E1030).wr W1032).keep K1033)) (((((Fj142_27_4.ext E1029).ext E1030).wr W1032).keep K1033)) (((((Fj142_27_5.ext E1029).ext E1030).wr W1032).keep K1033)) (((((Fj142_27_6.ext E1029).ext E1030).wr W1032).keep K1033)) (((((Fj142_27_7.ext E1029).ext E1030).wr W1032).keep K1033)) (((((hv142_27_0.ext E1029).ext E1030).wr W1032).keep K1033)) (Or.inr ⟨_, rfl, P1033_0⟩)
  · refine own_stepW (f' := (mkF m 182 #[.val (.int i0), .val (.int i1), .val (.int i2), .val (.int i3), .val (.int i4), .val (.int vb), .val (.int nn), .val (.int vk), .val (.ref b5), .val (.ref b8), .val (.ref b11), .val ru, .val rv, .unset, .unset, .unset, .unset, .unset, .unset] [])) (fun _ k => XS.ifNo X142_27.here hx rfl (hb hby at_179) rfl ((if0 _ _).trans (feq hc179_28).1) k) ?_
    refine own_stepW (f' := (mkF m 183 #[.val (.int i0), .val (.int i1), .val (.int i2), .val (.int i3), .val (.int i4), .val (.int vb), .val (.int nn), .val (.int vk), .val (.ref b5), .val (.ref b8), .val (.ref b11), .val ru, .val rv, .unset, .unset, .unset, .unset, .unset, .unset] [.null])) (fun _ k => XS.aconstNull X142_27.here hx rfl (hb hby at_182) k) ?_
    refine own_stepW (f' := (mkF m 206 #[.val (.int i0), .val (.int i1), .val (.int i2), .val (.int i3), .val (.int i4), .val (.int vb), .val (.int nn), .val (.int vk), .val (.ref b5), .val (.ref b8), .val (.ref b11), .val ru, .val rv, .unset, .unset, .unset, .unset, .unset, .unset] [.null])) (fun _ k => XS.goto X142_27.here hx rfl (pc0 := 183) (pc' := 206) rfl (hb hby at_183) (by decide) (by decide) k) ?_
    exact J179_34 _ hj142_27 _ .null (X142_27.mono (by decide) (by decide)) e142_27 (N142_27) (Zj142_27)  (Fj142_27_0) (Fj142_27_1) (Fj142_27_2) (Fj142_27_3) (Fj142_27_4) (Fj142_27_5) (Fj142_27_6) (Fj142_27_7) (hv142_27_0) (Or.inl rfl)
set_option maxRecDepth 65536 in
set_option maxHeartbeats 40000000 in
theorem own_J105_20 (l : Launch) (Z : State) (a0 : Array Value) (hw : own_HW a0 Z) (h0 : Heap) (n0 : Nat) (p : Program) (e : Env) (s : State) (m : MethodId) (below : List Frame) (meth : Method) (c : Code) (hx : p.tables.exec = Jvm.exec) (hby : c.code = code) (hlk : meth.locks = false) (hml : c.maxLocals = 19) (hown0 : s.vm.findClass "com/example/valbonne/valbonne/codec/AttributeCodingsAddPinLaw" = some m.cls) (hZ0 : Z.Warmed39 s.vm) (hret : meth.sig.returnType = some .boolean) (i0 : Int32) (i1 : Int32) (i2 : Int32) (i3 : Int32) (i4 : Int32) (cz : Int32) (vb : Int32) (nn : Int32) (vk : Int32) (b5 : Addr) (b6 : Addr) (b8 : Addr) (b9 : Addr) (b11 : Addr) (b12 : Addr) (hcz : ¬ cz = (0 : Int32)) (hv3_2_0 : vb = (if (i0 &&& (1 : Int32)) = (0 : Int32) then (0 : Int32) else (1 : Int32))) (hnn : nn = (((i0.toUInt32 >>> ((1 : Int32) &&& 31).toUInt32).toInt32) &&& (3 : Int32))) (hv24_4_0 : vk = (if (i0 &&& (8 : Int32)) = (0 : Int32) then (0 : Int32) else (1 : Int32))) : ∀ (T105_20 : State) (hj105_20 : Heap) (Lj105_20 : List Loc) (ru : Value), (Stand p l e room_1 s m #[(.int i0), (.int i1), (.int i2), (.int i3), (.int i4)] below meth c T105_20 Lj105_20 12 27) → (T105_20.heap = hj105_20) → (Fr n0 Lj105_20) → (n0 ≤ hj105_20.size) → (Sta Z hj105_20 "java/lang/String" "COMPACT_STRINGS" "Z" (.int cz)) → (Exa Z hj105_20 b5 own_NM) → (Exa Z hj105_20 b6 "java/lang/String") → (Exa Z hj105_20 b8 own_NM) → (Exa Z hj105_20 b9 "java/lang/String") → (Exa Z hj105_20 b11 own_NM) → (Exa Z hj105_20 b12 "java/lang/String") → (own_Opt Z hj105_20 ru "java/lang/String") → own_GoesW p e below s (Q0 Z i0 i1 i2 i3 i4 cz h0 n0) room_1.cells room_1.slots T105_20 (mkF m 135 #[.val (.int i0), .val (.int i1), .val (.int i2), .val (.int i3), .val (.int i4), .val (.int vb), .val (.int nn), .val (.int vk), .val (.ref b5), .val (.ref b8), .val (.ref b11), .unset, .unset, .unset, .unset, .unset, .unset, .unset, .unset] [ru]) := by
  have hown := hown0
  have hZ := hZ0
  intro T105_20 hj105_20 Lj105_20 ru X105_20 e105_20 N105_20 Zj105_20 Fj105_20_0 Fj105_20_1 Fj105_20_2 Fj105_20_3 Fj105_20_4 Fj105_20_5 Fj105_20_6 hv105_20_0
  have hr_ru : ru.isRef = true := hv105_20_0.isR
  refine own_stepW (f' := (mkF m 137 #[.val (.int i0), .val (.int i1), .val (.int i2), .val (.int i3), .val (.int i4), .val (.int vb), .val (.int nn), .val (.int vk), .val (.ref b5), .val (.ref b8), .val (.ref b11), .val ru, .unset, .unset, .unset, .unset, .unset, .unset, .unset] [])) (fun _ k => XS.astore X105_20.here hx rfl (hb hby at_135) rfl hr_ru (l' := #[.val (.int i0), .val (.int i1), .val (.int i2), .val (.int i3), .val (.int i4), .val (.int vb), .val (.int nn), .val (.int vk), .val (.ref b5), .val (.ref b8), .val (.ref b11), .val ru, .unset, .unset, .unset, .unset, .unset, .unset, .unset]) (by rcases hv105_20_0 with rfl | ⟨_, rfl, -⟩ <;> rfl) k) ?_
  refine own_stepW (f' := (mkF m 139 #[.val (.int i0), .val (.int i1), .val (.int i2), .val (.int i3), .val (.int i4), .val (.int vb), .val (.int nn), .val (.int vk), .val (.ref b5), .val (.ref b8), .val (.ref b11), .val ru, .unset, .unset, .unset, .unset, .unset, .unset, .unset] [(.int i4)])) (fun _ k => XS.iload X105_20.here hx rfl (hb hby at_137) rfl k) ?_
  refine own_stepW (f' := (mkF m 141 #[.val (.int i0), .val (.int i1), .val (.int i2), .val (.int i3), .val (.int i4), .val (.int vb), .val (.int nn), .val (.int vk), .val (.ref b5), .val (.ref b8), .val (.ref b11), .val ru, .unset, .unset, .unset, .unset, .unset, .unset, .unset] [(.int (33554432 : Int32)), (.int i4)])) (fun _ k => X105_20.ldcInt hx hown (mvT hZ (own_w56 hw)) (g := (mkF m 139 #[.val (.int i0), .val (.int i1), .val (.int i2), .val (.int i3), .val (.int i4), .val (.int vb), .val (.int nn), .val (.int vk), .val (.ref b5), .val (.ref b8), .val (.ref b11), .val ru, .unset, .unset, .unset, .unset, .unset, .unset, .unset] [(.int i4)])) rfl (hb hby at_139) _ k) ?_
  refine own_stepW (f' := (mkF m 142 #[.val (.int i0), .val (.int i1), .val (.int i2), .val (.int i3), .val (.int i4), .val (.int vb), .val (.int nn), .val (.int vk), .val (.ref b5), .val (.ref b8), .val (.ref b11), .val ru, .unset, .unset, .unset, .unset, .unset, .unset, .unset] [(.int (i4 &&& (33554432 : Int32)))])) (fun _ k => XS.iand X105_20.here hx rfl (hb hby at_141) rfl k) ?_
  have J142_27 := own_J142_27 l Z a0 hw h0 n0 p e s m below meth c hx hby hlk hml hown0 hZ0 hret i0 i1 i2 i3 i4 cz vb nn vk b5 b6 b8 b9 b11 b12 ru hcz hv3_2_0 hnn hv24_4_0 hr_ru
  by_cases hc142_21 : (i4 &&& (33554432 : Int32)) = (0 : Int32)
  · refine own_stepW (f' := (mkF m 149 #[.val (.int i0), .val (.int i1), .val (.int i2), .val (.int i3), .val (.int i4), .val (.int vb), .val (.int nn), .val (.int vk), .val (.ref b5), .val (.ref b8), .val (.ref b11), .val ru, .unset, .unset, .unset, .unset, .unset, .unset, .unset] [])) (fun _ k => XS.ifYes X105_20.here hx rfl (pc0 := 142) (pc' := 149) rfl (hb hby at_142) rfl ((if0 _ _).trans (teq hc142_21).1) (by decide) (by decide) k) ?_
    obtain ⟨T1022, h1022, X1022, e1022, E1022, A1022, D1022, -, st1022⟩ := newO X105_20 hx hZ hown (own_w38 hw) (own_w13 hw) (own_w5 hw) e105_20 (g := (mkF m 149 #[.val (.int i0), .val (.int i1), .val (.int i2), .val (.int i3), .val (.int i4), .val (.int vb), .val (.int nn), .val (.int vk), .val (.ref b5), .val (.ref b8), .val (.ref b11), .val ru, .unset, .unset, .unset, .unset, .unset, .unset, .unset] [])) rfl (hb hby at_149) (by decide) (by decide)
    obtain ⟨b1022, g1022⟩ : ∃ z, z = hj105_20.size := ⟨_, rfl⟩
    rw [← g1022] at A1022 D1022 st1022
    have g_b1022 : n0 ≤ b1022 := Nat.le_trans Zj105_20 (Nat.le_of_eq g1022.symm)
    have F_value_b1022 : Fld Z h1022 b1022 "java/lang/String" "value" "[B" .null := D1022 (Or.inr (own_w26 hw)) own_fd_0
    have F_coder_b1022 : Fld Z h1022 b1022 "java/lang/String" "coder" "B" (.int (0 : Int32)) := D1022 (Or.inr (own_w28 hw)) own_fd_1
    refine own_stepW (f' := (mkF m 152 #[.val (.int i0), .val (.int i1), .val (.int i2), .val (.int i3), .val (.int i4), .val (.int vb), .val (.int nn), .val (.int vk), .val (.ref b5), .val (.ref b8), .val (.ref b11), .val ru, .unset, .unset, .unset, .unset, .unset, .unset, .unset] [(.ref b1022)])) st1022 ?_
    refine own_stepW (f' := (mkF m 153 #[.val (.int i0), .val (.int i1), .val (.int i2), .val (.int i3), .val (.int i4), .val (.int vb), .val (.int nn), .val (.int vk), .val (.ref b5), .val (.ref b8), .val (.ref b11), .val ru, .unset, .unset, .unset, .unset, .unset, .unset, .unset] [(.ref b1022), (.ref b1022)])) (fun _ k => XS.dup X1022.here hx rfl (hb hby at_152) rfl rfl k) ?_
    refine own_stepW (f' := (mkF m 154 #[.val (.int i0), .val (.int i1), .val (.int i2), .val (.int i3), .val (.int i4), .val (.int vb), .val (.int nn), .val (.int vk), .val (.ref b5), .val (.ref b8), .val (.ref b11), .val ru, .unset, .unset, .unset, .unset, .unset, .unset, .unset] [(.int (1 : Int32)), (.ref b1022), (.ref b1022)])) (fun _ k => XS.iconst X1022.here hx rfl (hb hby at_153) k) ?_
    obtain ⟨T1023, h1023, k1023, X1023, e1023, E1023, A1023, st1023⟩ := newP X1022 hx hZ (aty := .char) (own_w39 hw) e1022 (g := (mkF m 154 #[.val (.int i0), .val (.int i1), .val (.int i2), .val (.int i3), .val (.int i4), .val (.int vb), .val (.int nn), .val (.int vk), .val (.ref b5), .val (.ref b8), .val (.ref b11), .val ru, .unset, .unset, .unset, .unset, .unset, .unset, .unset] [(.int (1 : Int32)), (.ref b1022), (.ref b1022)])) rfl (hb hby at_154) rfl (by decide) (cap := 1) (by decide) (by decide) (by decide) (by decide)
    obtain ⟨b1023, g1023⟩ : ∃ z, z = h1022.size := ⟨_, rfl⟩
    rw [← g1023] at A1023 st1023
    have ne_b1022_b1023 : b1022 ≠ b1023 := Nat.ne_of_lt (Nat.lt_of_lt_of_le F_value_b1022.lt (Nat.le_of_eq g1023.symm))
    have g_b1023 : n0 ≤ b1023 := Nat.le_trans (Nat.le_trans Zj105_20 E1022.1) (Nat.le_of_eq g1023.symm)
    have V_b1023 : Arv Z h1023 b1023 k1023 .char (1 : Int32) [(.int (0 : Int32))] (.int (0 : Int32)) := (Arv.new A1023 (by decide)).pad (pad_rep [] (.int (0 : Int32)) 1)
    refine own_stepW (f' := (mkF m 156 #[.val (.int i0), .val (.int i1), .val (.int i2), .val (.int i3), .val (.int i4), .val (.int vb), .val (.int nn), .val (.int vk), .val (.ref b5), .val (.ref b8), .val (.ref b11), .val ru, .unset, .unset, .unset, .unset, .unset, .unset, .unset] [(.ref b1023), (.ref b1022), (.ref b1022)])) st1023 ?_
    refine own_stepW (f' := (mkF m 157 #[.val (.int i0), .val (.int i1), .val (.int i2), .val (.int i3), .val (.int i4), .val (.int vb), .val (.int nn), .val (.int vk), .val (.ref b5), .val (.ref b8), .val (.ref b11), .val ru, .unset, .unset, .unset, .unset, .unset, .unset, .unset] [(.ref b1023), (.ref b1023), (.ref b1022), (.ref b1022)])) (fun _ k => XS.dup X1023.here hx rfl (hb hby at_156) rfl rfl k) ?_
    refine own_stepW (f' := (mkF m 158 #[.val (.int i0), .val (.int i1), .val (.int i2), .val (.int i3), .val (.int i4), .val (.int vb), .val (.int nn), .val (.int vk), .val (.ref b5), .val (.ref b8), .val (.ref b11), .val ru, .unset, .unset, .unset, .unset, .unset, .unset, .unset] [(.int (0 : Int32)), (.ref b1023), (.ref b1023), (.ref b1022), (.ref b1022)])) (fun _ k => XS.iconst X1023.here hx rfl (hb hby at_157) k) ?_
    refine own_stepW (f' := (mkF m 160 #[.val (.int i0), .val (.int i1), .val (.int i2), .val (.int i3), .val (.int i4), .val (.int vb), .val (.int nn), .val (.int vk), .val (.ref b5), .val (.ref b8), .val (.ref b11), .val ru, .unset, .unset, .unset, .unset, .unset, .unset, .unset] [(.int i4), (.int (0 : Int32)), (.ref b1023), (.ref b1023), (.ref b1022), (.ref b1022)])) (fun _ k => XS.iload X1023.here hx rfl (hb hby at_158) rfl k) ?_
    refine own_stepW (f' := (mkF m 162 #[.val (.int i0), .val (.int i1), .val (.int i2), .val (.int i3), .val (.int i4), .val (.int vb), .val (.int nn), .val (.int vk), .val (.ref b5), .val (.ref b8), .val (.ref b11), .val ru, .unset, .unset, .unset, .unset, .unset, .unset, .unset] [(.int (16 : Int32)), (.int i4), (.int (0 : Int32)), (.ref b1023), (.ref b1023), (.ref b1022), (.ref b1022)])) (fun _ k => XS.bipush X1023.here hx rfl (hb hby at_160) k) ?_
    refine own_stepW (f' := (mkF m 163 #[.val (.int i0), .val (.int i1), .val (.int i2), .val (.int i3), .val (.int i4), .val (.int vb), .val (.int nn), .val (.int vk), .val (.ref b5), .val (.ref b8), .val (.ref b11), .val ru, .unset, .unset, .unset, .unset, .unset, .unset, .unset] [(.int ((i4.toUInt32 >>> ((16 : Int32) &&& 31).toUInt32).toInt32)), (.int (0 : Int32)), (.ref b1023), (.ref b1023), (.ref b1022), (.ref b1022)])) (fun _ k => XS.iushr X1023.here hx rfl (hb hby at_162) rfl k) ?_
    refine own_stepW (f' := (mkF m 166 #[.val (.int i0), .val (.int i1), .val (.int i2), .val (.int i3), .val (.int i4), .val (.int vb), .val (.int nn), .val (.int vk), .val (.ref b5), .val (.ref b8), .val (.ref b11), .val ru, .unset, .unset, .unset, .unset, .unset, .unset, .unset] [(.int (255 : Int32)), (.int ((i4.toUInt32 >>> ((16 : Int32) &&& 31).toUInt32).toInt32)), (.int (0 : Int32)), (.ref b1023), (.ref b1023), (.ref b1022), (.ref b1022)])) (fun _ k => XS.sipush X1023.here hx rfl (hb hby at_163) k) ?_
    refine own_stepW (f' := (mkF m 167 #[.val (.int i0), .val (.int i1), .val (.int i2), .val (.int i3), .val (.int i4), .val (.int vb), .val (.int nn), .val (.int vk), .val (.ref b5), .val (.ref b8), .val (.ref b11), .val ru, .unset, .unset, .unset, .unset, .unset, .unset, .unset] [(.int (((i4.toUInt32 >>> ((16 : Int32) &&& 31).toUInt32).toInt32) &&& (255 : Int32))), (.int (0 : Int32)), (.ref b1023), (.ref b1023), (.ref b1022), (.ref b1022)])) (fun _ k => XS.iand X1023.here hx rfl (hb hby at_166) rfl k) ?_
    refine own_stepW (f' := (mkF m 168 #[.val (.int i0), .val (.int i1), .val (.int i2), .val (.int i3), .val (.int i4), .val (.int vb), .val (.int nn), .val (.int vk), .val (.ref b5), .val (.ref b8), .val (.ref b11), .val ru, .unset, .unset, .unset, .unset, .unset, .unset, .unset] [(.int ((((i4.toUInt32 >>> ((16 : Int32) &&& 31).toUInt32).toInt32) &&& (255 : Int32)).toUInt32.toUInt16.toUInt32.toInt32)), (.int (0 : Int32)), (.ref b1023), (.ref b1023), (.ref b1022), (.ref b1022)])) (fun _ k => XS.i2c X1023.here hx rfl (hb hby at_167) rfl k) ?_
    obtain ⟨cl1024, Ar1024, qa1024, Sa1024, Na1024, Ha1024, Ga1024⟩ := id (V_b1023)
    have hin1025 : ¬ ((0 : Int32) < 0 ∨ cl1024.slots.size ≤ ((0 : Int32)).toNatClampNeg) := inb_of Sa1024 ⟨by decide, by decide⟩
    obtain ⟨T1025, h1025, X1025, e1025, W1025, st1025⟩ := stC X1023 hx hZ e1023 Ar1024 (j := (0 : Int32)) hin1025 (g := (mkF m 168 #[.val (.int i0), .val (.int i1), .val (.int i2), .val (.int i3), .val (.int i4), .val (.int vb), .val (.int nn), .val (.int vk), .val (.ref b5), .val (.ref b8), .val (.ref b11), .val ru, .unset, .unset, .unset, .unset, .unset, .unset, .unset] [(.int ((((i4.toUInt32 >>> ((16 : Int32) &&& 31).toUInt32).toInt32) &&& (255 : Int32)).toUInt32.toUInt16.toUInt32.toInt32)), (.int (0 : Int32)), (.ref b1023), (.ref b1023), (.ref b1022), (.ref b1022)])) rfl rfl (hb hby at_168)
    have V1025 : Arv Z h1025 b1023 k1023 .char (1 : Int32) [(.int (nar .char ((((i4.toUInt32 >>> ((16 : Int32) &&& 31).toUInt32).toInt32) &&& (255 : Int32)).toUInt32.toUInt16.toUInt32.toInt32)))] (.int (0 : Int32)) := Arv.set Ar1024 qa1024 Sa1024 Na1024 Ha1024 Ga1024 (fits_nar_char _) W1025 0 rfl (Nat.le_of_ble_eq_true rfl)
    obtain ⟨Lo1025, X1025, N1025⟩ : ∃ K, Stand p l e room_1 s m #[(.int i0), (.int i1), (.int i2), (.int i3), (.int i4)] below meth c T1025 K 14 32 ∧ Fr n0 K := ⟨_, X1025, (Fr.snoc X1025 N105_20 g_b1023)⟩
    refine own_stepW (f' := (mkF m 169 #[.val (.int i0), .val (.int i1), .val (.int i2), .val (.int i3), .val (.int i4), .val (.int vb), .val (.int nn), .val (.int vk), .val (.ref b5), .val (.ref b8), .val (.ref b11), .val ru, .unset, .unset, .unset, .unset, .unset, .unset, .unset] [(.ref b1023), (.ref b1022), (.ref b1022)])) st1025 ?_
    have hp1026_hcz : ¬ cz = (0 : Int32) := hcz
    have hp1026_hq : ¬ (255 : Int32) < (nar .char ((((i4.toUInt32 >>> ((16 : Int32) &&& 31).toUInt32).toInt32) &&& (255 : Int32)).toUInt32.toUInt16.toUInt32.toInt32)) := own_n255 _
    have Zq1026 : n0 ≤ h1025.size := (Nat.le_trans (Nat.le_trans (Nat.le_trans Zj105_20 E1022.1) E1023.1) (Nat.le_of_eq W1025.size.symm))
    obtain ⟨_, _, ⟨T1026, L1026, k1026, n1026⟩, -, X1026, ⟨Lc1026, hQ1026, l1026, y1026, z1026⟩, st1026⟩ := X1025.specialBack hx (y := (⟨"java/lang/String", "<init>", "([C)V"⟩ : MethodName)) rfl hown (mvT hZ (own_w40 hw)) (mvT hZ (own_w41 hw)) (mvT hZ (own_w42 hw)) (by decide) (backOf (W := 1) (rm7 l Z a0 hw [] b1022 b1023 .null (.int (0 : Int32)) k1023 (nar .char ((((i4.toUInt32 >>> ((16 : Int32) &&& 31).toUInt32).toInt32) &&& (255 : Int32)).toUInt32.toUInt16.toUInt32.toInt32)) cz h1025 n0 Zq1026 ((A1022.ext E1023).wr W1025) ((F_value_b1022.ext E1023).other W1025 (Or.inl ne_b1022_b1023)) ((F_coder_b1022.ext E1023).other W1025 (Or.inl ne_b1022_b1023)) g_b1022 V1025 (Ne.symm ne_b1022_b1023) (((Fj105_20_0.ext E1022).ext E1023).wr W1025) hp1026_hcz hp1026_hq) hZ (own_w42 hw) (own_w5 hw) (by decide) (by decide)) (g := (mkF m 169 #[.val (.int i0), .val (.int i1), .val (.int i2), .val (.int i3), .val (.int i4), .val (.int vb), .val (.int nn), .val (.int vk), .val (.ref b5), .val (.ref b8), .val (.ref b11), .val ru, .unset, .unset, .unset, .unset, .unset, .unset, .unset] [(.ref b1023), (.ref b1022), (.ref b1022)])) rfl (by rw [hml]; rfl) (Steps.refl _) (a := b1022) (argsL := [(.ref b1023)]) (rest := [(.ref b1022)]) (lenOf pd_20 rfl) rfl (by show 2 * 0 + _ ≤ _; exact Nat.le_of_eq rfl) (hb hby at_169) (fun _ _ => ⟨rfl, e1025, (by decide : 14 + 1 ≤ _), (by decide : 32 + 1 ≤ _)⟩)
    dsimp only [Pt.U, Pt.locs, Pt.cells, Pt.slots] at X1026 l1026 y1026 z1026 st1026 hQ1026
    subst l1026 y1026 z1026
    obtain ⟨rfl, Nq1026, K1026, P1026_0⟩ := hQ1026
    obtain ⟨Lo1026, X1026, N1026⟩ : ∃ K, Stand p l e room_1 s m #[(.int i0), (.int i1), (.int i2), (.int i3), (.int i4)] below meth c T1026 K 15 33 ∧ Fr n0 K := ⟨_, X1026, (Fr.app N1025 Nq1026)⟩
    refine own_jumpW (f' := (mkF m 172 #[.val (.int i0), .val (.int i1), .val (.int i2), .val (.int i3), .val (.int i4), .val (.int vb), .val (.int nn), .val (.int vk), .val (.ref b5), .val (.ref b8), .val (.ref b11), .val ru, .unset, .unset, .unset, .unset, .unset, .unset, .unset] [(.ref b1022)])) st1026 ?_
    exact J142_27 _ T1026.heap _ (.ref b1022) (X1026.mono (by decide) (by decide)) rfl (N1026) ((Nat.le_trans (Nat.le_trans (Nat.le_trans (Nat.le_trans Zj105_20 E1022.1) E1023.1) (Nat.le_of_eq W1025.size.symm)) K1026.1))  ((own_staKeep (((Fj105_20_0.ext E1022).ext E1023).wr W1025) K1026 (allS (own_exaNS ((A1022.ext E1023).wr W1025)) all0))) (((((Fj105_20_1.ext E1022).ext E1023).wr W1025).keep K1026)) (((((Fj105_20_2.ext E1022).ext E1023).wr W1025).keep K1026)) (((((Fj105_20_3.ext E1022).ext E1023).wr W1025).keep K1026)) (((((Fj105_20_4.ext E1022).ext E1023).wr W1025).keep K1026)) (((((Fj105_20_5.ext E1022).ext E1023).wr W1025).keep K1026)) (((((Fj105_20_6.ext E1022).ext E1023).wr W1025).keep K1026)) (((((hv105_20_0.ext E1022).ext E1023).wr W1025).keep K1026)) (Or.inr ⟨_, rfl, P1026_0⟩)
  · refine own_stepW (f' := (mkF m 145 #[.val (.int i0), .val (.int i1), .val (.int i2), .val (.int i3), .val (.int i4), .val (.int vb), .val (.int nn), .val (.int vk), .val (.ref b5), .val (.ref b8), .val (.ref b11), .val ru, .unset, .unset, .unset, .unset, .unset, .unset, .unset] [])) (fun _ k => XS.ifNo X105_20.here hx rfl (hb hby at_142) rfl ((if0 _ _).trans (feq hc142_21).1) k) ?_
    refine own_stepW (f' := (mkF m 146 #[.val (.int i0), .val (.int i1), .val (.int i2), .val (.int i3), .val (.int i4), .val (.int vb), .val (.int nn), .val (.int vk), .val (.ref b5), .val (.ref b8), .val (.ref b11), .val ru, .unset, .unset, .unset, .unset, .unset, .unset, .unset] [.null])) (fun _ k => XS.aconstNull X105_20.here hx rfl (hb hby at_145) k) ?_
    refine own_stepW (f' := (mkF m 172 #[.val (.int i0), .val (.int i1), .val (.int i2), .val (.int i3), .val (.int i4), .val (.int vb), .val (.int nn), .val (.int vk), .val (.ref b5), .val (.ref b8), .val (.ref b11), .val ru, .unset, .unset, .unset, .unset, .unset, .unset, .unset] [.null])) (fun _ k => XS.goto X105_20.here hx rfl (pc0 := 146) (pc' := 172) rfl (hb hby at_146) (by decide) (by decide) k) ?_
    exact J142_27 _ hj105_20 _ .null (X105_20.mono (by decide) (by decide)) e105_20 (N105_20) (Zj105_20)  (Fj105_20_0) (Fj105_20_1) (Fj105_20_2) (Fj105_20_3) (Fj105_20_4) (Fj105_20_5) (Fj105_20_6) (hv105_20_0) (Or.inl rfl)
set_option maxRecDepth 65536 in
set_option maxHeartbeats 40000000 in
theorem own_J24_4 (l : Launch) (Z : State) (a0 : Array Value) (hw : own_HW a0 Z) (h0 : Heap) (n0 : Nat) (p : Program) (e : Env) (s : State) (m : MethodId) (below : List Frame) (meth : Method) (c : Code) (hx : p.tables.exec = Jvm.exec) (hby : c.code = code) (hlk : meth.locks = false) (hml : c.maxLocals = 19) (hown0 : s.vm.findClass "com/example/valbonne/valbonne/codec/AttributeCodingsAddPinLaw" = some m.cls) (hZ0 : Z.Warmed39 s.vm) (hret : meth.sig.returnType = some .boolean) (i0 : Int32) (i1 : Int32) (i2 : Int32) (i3 : Int32) (i4 : Int32) (cz : Int32) (vb : Int32) (nn : Int32) (S_COMPACT_STRINGS : Sta Z h0 "java/lang/String" "COMPACT_STRINGS" "Z" (.int cz)) (hcz : ¬ cz = (0 : Int32)) (N0 : Fr n0 []) (Z0 : n0 ≤ h0.size) (hv3_2_0 : vb = (if (i0 &&& (1 : Int32)) = (0 : Int32) then (0 : Int32) else (1 : Int32))) (hnn : nn = (((i0.toUInt32 >>> ((1 : Int32) &&& 31).toUInt32).toInt32) &&& (3 : Int32))) : ∀ (T24_4 : State) (vk : Int32), Stand p l e room_1 s m #[(.int i0), (.int i1), (.int i2), (.int i3), (.int i4)] below meth c T24_4 [] 0 0 → T24_4.heap = h0 → vk = (if (i0 &&& (8 : Int32)) = (0 : Int32) then (0 : Int32) else (1 : Int32)) → own_GoesW p e below s (Q0 Z i0 i1 i2 i3 i4 cz h0 n0) room_1.cells room_1.slots T24_4 (mkF m 32 #[.val (.int i0), .val (.int i1), .val (.int i2), .val (.int i3), .val (.int i4), .val (.int vb), .val (.int nn), .unset, .unset, .unset, .unset, .unset, .unset, .unset, .unset, .unset, .unset, .unset, .unset] [(.int vk)]) := by
  have hown := hown0
  have hZ := hZ0
  intro T24_4 vk X24_4 e24_4 hv24_4_0
  refine own_stepW (f' := (mkF m 34 #[.val (.int i0), .val (.int i1), .val (.int i2), .val (.int i3), .val (.int i4), .val (.int vb), .val (.int nn), .val (.int vk), .unset, .unset, .unset, .unset, .unset, .unset, .unset, .unset, .unset, .unset, .unset] [])) (fun _ k => XS.istore X24_4.here hx rfl (hb hby at_32) rfl (l' := #[.val (.int i0), .val (.int i1), .val (.int i2), .val (.int i3), .val (.int i4), .val (.int vb), .val (.int nn), .val (.int vk), .unset, .unset, .unset, .unset, .unset, .unset, .unset, .unset, .unset, .unset, .unset]) rfl k) ?_
  obtain ⟨T5, h5, X5, e5, E5, A5, D5, -, st5⟩ := newO X24_4 hx hZ hown (own_w0 hw) (own_w1 hw) (own_w2 hw) e24_4 (g := (mkF m 34 #[.val (.int i0), .val (.int i1), .val (.int i2), .val (.int i3), .val (.int i4), .val (.int vb), .val (.int nn), .val (.int vk), .unset, .unset, .unset, .unset, .unset, .unset, .unset, .unset, .unset, .unset, .unset] [])) rfl (hb hby at_34) (by decide) (by decide)
  obtain ⟨b5, g5⟩ : ∃ z, z = h0.size := ⟨_, rfl⟩
  rw [← g5] at A5 D5 st5
  have g_b5 : n0 ≤ b5 := Nat.le_trans Z0 (Nat.le_of_eq g5.symm)
  have F_token_b5 : Fld Z h5 b5 own_NM "token" "I" (.int (0 : Int32)) := D5 (Or.inr (own_w34 hw)) own_fd_2
  have F_name_b5 : Fld Z h5 b5 own_NM "name" "Ljava/lang/String;" .null := D5 (Or.inr (own_w36 hw)) own_fd_3
  refine own_stepW (f' := (mkF m 37 #[.val (.int i0), .val (.int i1), .val (.int i2), .val (.int i3), .val (.int i4), .val (.int vb), .val (.int nn), .val (.int vk), .unset, .unset, .unset, .unset, .unset, .unset, .unset, .unset, .unset, .unset, .unset] [(.ref b5)])) st5 ?_
  refine own_stepW (f' := (mkF m 38 #[.val (.int i0), .val (.int i1), .val (.int i2), .val (.int i3), .val (.int i4), .val (.int vb), .val (.int nn), .val (.int vk), .unset, .unset, .unset, .unset, .unset, .unset, .unset, .unset, .unset, .unset, .unset] [(.ref b5), (.ref b5)])) (fun _ k => XS.dup X5.here hx rfl (hb hby at_37) rfl rfl k) ?_
  refine own_stepW (f' := (mkF m 39 #[.val (.int i0), .val (.int i1), .val (.int i2), .val (.int i3), .val (.int i4), .val (.int vb), .val (.int nn), .val (.int vk), .unset, .unset, .unset, .unset, .unset, .unset, .unset, .unset, .unset, .unset, .unset] [(.int i1), (.ref b5), (.ref b5)])) (fun _ k => XS.iloadN X5.here hx rfl (hb hby at_38) rfl k) ?_
  refine own_stepW (f' := (mkF m 41 #[.val (.int i0), .val (.int i1), .val (.int i2), .val (.int i3), .val (.int i4), .val (.int vb), .val (.int nn), .val (.int vk), .unset, .unset, .unset, .unset, .unset, .unset, .unset, .unset, .unset, .unset, .unset] [(.int i4), (.int i1), (.ref b5), (.ref b5)])) (fun _ k => XS.iload X5.here hx rfl (hb hby at_39) rfl k) ?_
  refine own_stepW (f' := (mkF m 44 #[.val (.int i0), .val (.int i1), .val (.int i2), .val (.int i3), .val (.int i4), .val (.int vb), .val (.int nn), .val (.int vk), .unset, .unset, .unset, .unset, .unset, .unset, .unset, .unset, .unset, .unset, .unset] [(.int (255 : Int32)), (.int i4), (.int i1), (.ref b5), (.ref b5)])) (fun _ k => XS.sipush X5.here hx rfl (hb hby at_41) k) ?_
  refine own_stepW (f' := (mkF m 45 #[.val (.int i0), .val (.int i1), .val (.int i2), .val (.int i3), .val (.int i4), .val (.int vb), .val (.int nn), .val (.int vk), .unset, .unset, .unset, .unset, .unset, .unset, .unset, .unset, .unset, .unset, .unset] [(.int (i4 &&& (255 : Int32))), (.int i1), (.ref b5), (.ref b5)])) (fun _ k => XS.iand X5.here hx rfl (hb hby at_44) rfl k) ?_
  refine own_stepW (f' := (mkF m 46 #[.val (.int i0), .val (.int i1), .val (.int i2), .val (.int i3), .val (.int i4), .val (.int vb), .val (.int nn), .val (.int vk), .unset, .unset, .unset, .unset, .unset, .unset, .unset, .unset, .unset, .unset, .unset] [(.int ((i4 &&& (255 : Int32)).toUInt32.toUInt16.toUInt32.toInt32)), (.int i1), (.ref b5), (.ref b5)])) (fun _ k => XS.i2c X5.here hx rfl (hb hby at_45) rfl k) ?_
  have hp6_hcz : ¬ cz = (0 : Int32) := hcz
  have hp6_hq : ¬ (255 : Int32) < ((i4 &&& (255 : Int32)).toUInt32.toUInt16.toUInt32.toInt32) := own_c255 _
  have Zq6 : n0 ≤ h5.size := (Nat.le_trans Z0 E5.1)
  obtain ⟨_, _, ⟨T6, L6, k6, n6⟩, -, X6, ⟨Lc6, hQ6, l6, y6, z6⟩, st6⟩ := Jvm.LawKit.callS X5 hx (y := (⟨"java/lang/String", "valueOf", "(C)Ljava/lang/String;"⟩ : MethodName)) hown (mvT hZ (own_w3 hw)) (mvT hZ (own_w4 hw)) (mvT hZ (own_w5 hw)) (mvT hZ (own_w6 hw)) (by decide) (backOf (W := 3) (rm1 l Z a0 hw [] ((i4 &&& (255 : Int32)).toUInt32.toUInt16.toUInt32.toInt32) cz h5 n0 Zq6 (S_COMPACT_STRINGS.ext E5) hp6_hcz hp6_hq) hZ (own_w6 hw) (own_w5 hw) (by decide) (by decide)) (g := (mkF m 46 #[.val (.int i0), .val (.int i1), .val (.int i2), .val (.int i3), .val (.int i4), .val (.int vb), .val (.int nn), .val (.int vk), .unset, .unset, .unset, .unset, .unset, .unset, .unset, .unset, .unset, .unset, .unset] [(.int ((i4 &&& (255 : Int32)).toUInt32.toUInt16.toUInt32.toInt32)), (.int i1), (.ref b5), (.ref b5)])) rfl (by rw [hml]; rfl) (argsL := [(.int ((i4 &&& (255 : Int32)).toUInt32.toUInt16.toUInt32.toInt32))]) (rest := [(.int i1), (.ref b5), (.ref b5)]) (lenOf pd_18 rfl) rfl (by show 2 * 0 + _ ≤ _; exact Nat.le_of_eq rfl) (hb hby at_46) (fun _ _ => ⟨rfl, e5, (by decide : 1 + 2 ≤ _), (by decide : 2 + 5 ≤ _)⟩)
  dsimp only [Pt.U, Pt.locs, Pt.cells, Pt.slots] at X6 l6 y6 z6 st6 hQ6
  subst l6 y6 z6
  obtain ⟨b6, rfl, g_b6, sq_b6, Nq6, K6, P6_0⟩ := hQ6
  obtain ⟨Lo6, X6, N6⟩ : ∃ K, Stand p l e room_1 s m #[(.int i0), (.int i1), (.int i2), (.int i3), (.int i4)] below meth c T6 K 3 7 ∧ Fr n0 K := ⟨_, X6, (Fr.app N0 Nq6)⟩
  have ne_b5_b6 : b5 ≠ b6 := Nat.ne_of_lt (Nat.lt_of_lt_of_le F_token_b5.lt sq_b6)
  refine own_stepW (f' := (mkF m 49 #[.val (.int i0), .val (.int i1), .val (.int i2), .val (.int i3), .val (.int i4), .val (.int vb), .val (.int nn), .val (.int vk), .unset, .unset, .unset, .unset, .unset, .unset, .unset, .unset, .unset, .unset, .unset] [(.ref b6), (.int i1), (.ref b5), (.ref b5)])) st6 ?_
  have Zq7 : n0 ≤ T6.heap.size := (Nat.le_trans (Nat.le_trans Z0 E5.1) K6.1)
  obtain ⟨_, _, ⟨T7, L7, k7, n7⟩, -, X7, ⟨Lc7, hQ7, l7, y7, z7⟩, st7⟩ := X6.specialBack hx (y := (⟨own_NM, "<init>", "(ILjava/lang/String;)V"⟩ : MethodName)) rfl hown (mvT hZ (own_w29 hw)) (mvT hZ (own_w30 hw)) (mvT hZ (own_w31 hw)) (by decide) (backOf (W := 1) (rm6 l Z a0 hw [] b5 i1 b6 (.int (0 : Int32)) .null T6.heap n0 Zq7 (A5.keep K6) (F_token_b5.keep K6 nin0) (F_name_b5.keep K6 nin0) g_b5) hZ (own_w31 hw) (own_w2 hw) (by decide) (by decide)) (g := (mkF m 49 #[.val (.int i0), .val (.int i1), .val (.int i2), .val (.int i3), .val (.int i4), .val (.int vb), .val (.int nn), .val (.int vk), .unset, .unset, .unset, .unset, .unset, .unset, .unset, .unset, .unset, .unset, .unset] [(.ref b6), (.int i1), (.ref b5), (.ref b5)])) rfl (by rw [hml]; rfl) (Steps.refl _) (a := b5) (argsL := [(.int i1), (.ref b6)]) (rest := [(.ref b5)]) (lenOf pd_19 rfl) rfl (by show 2 * 0 + _ ≤ _; exact Nat.le_of_eq rfl) (hb hby at_49) (fun _ _ => ⟨rfl, rfl, (by decide : 3 + 0 ≤ _), (by decide : 7 + 0 ≤ _)⟩)
  dsimp only [Pt.U, Pt.locs, Pt.cells, Pt.slots] at X7 l7 y7 z7 st7 hQ7
  subst l7 y7 z7
  obtain ⟨rfl, Nq7, K7, P7_0⟩ := hQ7
  obtain ⟨Lo7, X7, N7⟩ : ∃ K, Stand p l e room_1 s m #[(.int i0), (.int i1), (.int i2), (.int i3), (.int i4)] below meth c T7 K 3 7 ∧ Fr n0 K := ⟨_, X7, (Fr.app N6 Nq7)⟩
  refine own_jumpW (f' := (mkF m 52 #[.val (.int i0), .val (.int i1), .val (.int i2), .val (.int i3), .val (.int i4), .val (.int vb), .val (.int nn), .val (.int vk), .unset, .unset, .unset, .unset, .unset, .unset, .unset, .unset, .unset, .unset, .unset] [(.ref b5)])) st7 ?_
  refine own_stepW (f' := (mkF m 54 #[.val (.int i0), .val (.int i1), .val (.int i2), .val (.int i3), .val (.int i4), .val (.int vb), .val (.int nn), .val (.int vk), .val (.ref b5), .unset, .unset, .unset, .unset, .unset, .unset, .unset, .unset, .unset, .unset] [])) (fun _ k => XS.astore X7.here hx rfl (hb hby at_52) rfl rfl (l' := #[.val (.int i0), .val (.int i1), .val (.int i2), .val (.int i3), .val (.int i4), .val (.int vb), .val (.int nn), .val (.int vk), .val (.ref b5), .unset, .unset, .unset, .unset, .unset, .unset, .unset, .unset, .unset, .unset]) rfl k) ?_
  obtain ⟨T8, h8, X8, e8, E8, A8, D8, -, st8⟩ := newO X7 hx hZ hown (own_w0 hw) (own_w1 hw) (own_w2 hw) rfl (g := (mkF m 54 #[.val (.int i0), .val (.int i1), .val (.int i2), .val (.int i3), .val (.int i4), .val (.int vb), .val (.int nn), .val (.int vk), .val (.ref b5), .unset, .unset, .unset, .unset, .unset, .unset, .unset, .unset, .unset, .unset] [])) rfl (hb hby at_54) (by decide) (by decide)
  obtain ⟨b8, g8⟩ : ∃ z, z = T7.heap.size := ⟨_, rfl⟩
  rw [← g8] at A8 D8 st8
  have g_b8 : n0 ≤ b8 := Nat.le_trans (Nat.le_trans (Nat.le_trans (Nat.le_trans Z0 E5.1) K6.1) K7.1) (Nat.le_of_eq g8.symm)
  have F_token_b8 : Fld Z h8 b8 own_NM "token" "I" (.int (0 : Int32)) := D8 (Or.inr (own_w34 hw)) own_fd_2
  have F_name_b8 : Fld Z h8 b8 own_NM "name" "Ljava/lang/String;" .null := D8 (Or.inr (own_w36 hw)) own_fd_3
  refine own_stepW (f' := (mkF m 57 #[.val (.int i0), .val (.int i1), .val (.int i2), .val (.int i3), .val (.int i4), .val (.int vb), .val (.int nn), .val (.int vk), .val (.ref b5), .unset, .unset, .unset, .unset, .unset, .unset, .unset, .unset, .unset, .unset] [(.ref b8)])) st8 ?_
  refine own_stepW (f' := (mkF m 58 #[.val (.int i0), .val (.int i1), .val (.int i2), .val (.int i3), .val (.int i4), .val (.int vb), .val (.int nn), .val (.int vk), .val (.ref b5), .unset, .unset, .unset, .unset, .unset, .unset, .unset, .unset, .unset, .unset] [(.ref b8), (.ref b8)])) (fun _ k => XS.dup X8.here hx rfl (hb hby at_57) rfl rfl k) ?_
  refine own_stepW (f' := (mkF m 59 #[.val (.int i0), .val (.int i1), .val (.int i2), .val (.int i3), .val (.int i4), .val (.int vb), .val (.int nn), .val (.int vk), .val (.ref b5), .unset, .unset, .unset, .unset, .unset, .unset, .unset, .unset, .unset, .unset] [(.int i2), (.ref b8), (.ref b8)])) (fun _ k => XS.iloadN X8.here hx rfl (hb hby at_58) rfl k) ?_
  refine own_stepW (f' := (mkF m 61 #[.val (.int i0), .val (.int i1), .val (.int i2), .val (.int i3), .val (.int i4), .val (.int vb), .val (.int nn), .val (.int vk), .val (.ref b5), .unset, .unset, .unset, .unset, .unset, .unset, .unset, .unset, .unset, .unset] [(.int i4), (.int i2), (.ref b8), (.ref b8)])) (fun _ k => XS.iload X8.here hx rfl (hb hby at_59) rfl k) ?_
  refine own_stepW (f' := (mkF m 63 #[.val (.int i0), .val (.int i1), .val (.int i2), .val (.int i3), .val (.int i4), .val (.int vb), .val (.int nn), .val (.int vk), .val (.ref b5), .unset, .unset, .unset, .unset, .unset, .unset, .unset, .unset, .unset, .unset] [(.int (8 : Int32)), (.int i4), (.int i2), (.ref b8), (.ref b8)])) (fun _ k => XS.bipush X8.here hx rfl (hb hby at_61) k) ?_
  refine own_stepW (f' := (mkF m 64 #[.val (.int i0), .val (.int i1), .val (.int i2), .val (.int i3), .val (.int i4), .val (.int vb), .val (.int nn), .val (.int vk), .val (.ref b5), .unset, .unset, .unset, .unset, .unset, .unset, .unset, .unset, .unset, .unset] [(.int ((i4.toUInt32 >>> ((8 : Int32) &&& 31).toUInt32).toInt32)), (.int i2), (.ref b8), (.ref b8)])) (fun _ k => XS.iushr X8.here hx rfl (hb hby at_63) rfl k) ?_
  refine own_stepW (f' := (mkF m 67 #[.val (.int i0), .val (.int i1), .val (.int i2), .val (.int i3), .val (.int i4), .val (.int vb), .val (.int nn), .val (.int vk), .val (.ref b5), .unset, .unset, .unset, .unset, .unset, .unset, .unset, .unset, .unset, .unset] [(.int (255 : Int32)), (.int ((i4.toUInt32 >>> ((8 : Int32) &&& 31).toUInt32).toInt32)), (.int i2), (.ref b8), (.ref b8)])) (fun _ k => XS.sipush X8.here hx rfl (hb hby at_64) k) ?_
  refine own_stepW (f' := (mkF m 68 #[.val (.int i0), .val (.int i1), .val (.int i2), .val (.int i3), .val (.int i4), .val (.int vb), .val (.int nn), .val (.int vk), .val (.ref b5), .unset, .unset, .unset, .unset, .unset, .unset, .unset, .unset, .unset, .unset] [(.int (((i4.toUInt32 >>> ((8 : Int32) &&& 31).toUInt32).toInt32) &&& (255 : Int32))), (.int i2), (.ref b8), (.ref b8)])) (fun _ k => XS.iand X8.here hx rfl (hb hby at_67) rfl k) ?_
  refine own_stepW (f' := (mkF m 69 #[.val (.int i0), .val (.int i1), .val (.int i2), .val (.int i3), .val (.int i4), .val (.int vb), .val (.int nn), .val (.int vk), .val (.ref b5), .unset, .unset, .unset, .unset, .unset, .unset, .unset, .unset, .unset, .unset] [(.int ((((i4.toUInt32 >>> ((8 : Int32) &&& 31).toUInt32).toInt32) &&& (255 : Int32)).toUInt32.toUInt16.toUInt32.toInt32)), (.int i2), (.ref b8), (.ref b8)])) (fun _ k => XS.i2c X8.here hx rfl (hb hby at_68) rfl k) ?_
  have hp9_hcz : ¬ cz = (0 : Int32) := hcz
  have hp9_hq : ¬ (255 : Int32) < ((((i4.toUInt32 >>> ((8 : Int32) &&& 31).toUInt32).toInt32) &&& (255 : Int32)).toUInt32.toUInt16.toUInt32.toInt32) := own_c255 _
  have Zq9 : n0 ≤ h8.size := (Nat.le_trans (Nat.le_trans (Nat.le_trans (Nat.le_trans Z0 E5.1) K6.1) K7.1) E8.1)
  obtain ⟨_, _, ⟨T9, L9, k9, n9⟩, -, X9, ⟨Lc9, hQ9, l9, y9, z9⟩, st9⟩ := Jvm.LawKit.callS X8 hx (y := (⟨"java/lang/String", "valueOf", "(C)Ljava/lang/String;"⟩ : MethodName)) hown (mvT hZ (own_w3 hw)) (mvT hZ (own_w4 hw)) (mvT hZ (own_w5 hw)) (mvT hZ (own_w6 hw)) (by decide) (backOf (W := 3) (rm1 l Z a0 hw [] ((((i4.toUInt32 >>> ((8 : Int32) &&& 31).toUInt32).toInt32) &&& (255 : Int32)).toUInt32.toUInt16.toUInt32.toInt32) cz h8 n0 Zq9 ((own_staKeep (own_staKeep (S_COMPACT_STRINGS.ext E5) K6 all0) K7 (allS (own_exaNS (A5.keep K6)) all0)).ext E8) hp9_hcz hp9_hq) hZ (own_w6 hw) (own_w5 hw) (by decide) (by decide)) (g := (mkF m 69 #[.val (.int i0), .val (.int i1), .val (.int i2), .val (.int i3), .val (.int i4), .val (.int vb), .val (.int nn), .val (.int vk), .val (.ref b5), .unset, .unset, .unset, .unset, .unset, .unset, .unset, .unset, .unset, .unset] [(.int ((((i4.toUInt32 >>> ((8 : Int32) &&& 31).toUInt32).toInt32) &&& (255 : Int32)).toUInt32.toUInt16.toUInt32.toInt32)), (.int i2), (.ref b8), (.ref b8)])) rfl (by rw [hml]; rfl) (argsL := [(.int ((((i4.toUInt32 >>> ((8 : Int32) &&& 31).toUInt32).toInt32) &&& (255 : Int32)).toUInt32.toUInt16.toUInt32.toInt32))]) (rest := [(.int i2), (.ref b8), (.ref b8)]) (lenOf pd_18 rfl) rfl (by show 2 * 0 + _ ≤ _; exact Nat.le_of_eq rfl) (hb hby at_69) (fun _ _ => ⟨rfl, e8, (by decide : 4 + 2 ≤ _), (by decide : 9 + 5 ≤ _)⟩)
  dsimp only [Pt.U, Pt.locs, Pt.cells, Pt.slots] at X9 l9 y9 z9 st9 hQ9
  subst l9 y9 z9
  obtain ⟨b9, rfl, g_b9, sq_b9, Nq9, K9, P9_0⟩ := hQ9
  obtain ⟨Lo9, X9, N9⟩ : ∃ K, Stand p l e room_1 s m #[(.int i0), (.int i1), (.int i2), (.int i3), (.int i4)] below meth c T9 K 6 14 ∧ Fr n0 K := ⟨_, X9, (Fr.app N7 Nq9)⟩
  have ne_b8_b9 : b8 ≠ b9 := Nat.ne_of_lt (Nat.lt_of_lt_of_le F_token_b8.lt sq_b9)
  refine own_stepW (f' := (mkF m 72 #[.val (.int i0), .val (.int i1), .val (.int i2), .val (.int i3), .val (.int i4), .val (.int vb), .val (.int nn), .val (.int vk), .val (.ref b5), .unset, .unset, .unset, .unset, .unset, .unset, .unset, .unset, .unset, .unset] [(.ref b9), (.int i2), (.ref b8), (.ref b8)])) st9 ?_
  have Zq10 : n0 ≤ T9.heap.size := (Nat.le_trans (Nat.le_trans (Nat.le_trans (Nat.le_trans (Nat.le_trans Z0 E5.1) K6.1) K7.1) E8.1) K9.1)
  obtain ⟨_, _, ⟨T10, L10, k10, n10⟩, -, X10, ⟨Lc10, hQ10, l10, y10, z10⟩, st10⟩ := X9.specialBack hx (y := (⟨own_NM, "<init>", "(ILjava/lang/String;)V"⟩ : MethodName)) rfl hown (mvT hZ (own_w29 hw)) (mvT hZ (own_w30 hw)) (mvT hZ (own_w31 hw)) (by decide) (backOf (W := 1) (rm6 l Z a0 hw [] b8 i2 b9 (.int (0 : Int32)) .null T9.heap n0 Zq10 (A8.keep K9) (F_token_b8.keep K9 nin0) (F_name_b8.keep K9 nin0) g_b8) hZ (own_w31 hw) (own_w2 hw) (by decide) (by decide)) (g := (mkF m 72 #[.val (.int i0), .val (.int i1), .val (.int i2), .val (.int i3), .val (.int i4), .val (.int vb), .val (.int nn), .val (.int vk), .val (.ref b5), .unset, .unset, .unset, .unset, .unset, .unset, .unset, .unset, .unset, .unset] [(.ref b9), (.int i2), (.ref b8), (.ref b8)])) rfl (by rw [hml]; rfl) (Steps.refl _) (a := b8) (argsL := [(.int i2), (.ref b9)]) (rest := [(.ref b8)]) (lenOf pd_19 rfl) rfl (by show 2 * 0 + _ ≤ _; exact Nat.le_of_eq rfl) (hb hby at_72) (fun _ _ => ⟨rfl, rfl, (by decide : 6 + 0 ≤ _), (by decide : 14 + 0 ≤ _)⟩)
  dsimp only [Pt.U, Pt.locs, Pt.cells, Pt.slots] at X10 l10 y10 z10 st10 hQ10
  subst l10 y10 z10
  obtain ⟨rfl, Nq10, K10, P10_0⟩ := hQ10
  obtain ⟨Lo10, X10, N10⟩ : ∃ K, Stand p l e room_1 s m #[(.int i0), (.int i1), (.int i2), (.int i3), (.int i4)] below meth c T10 K 6 14 ∧ Fr n0 K := ⟨_, X10, (Fr.app N9 Nq10)⟩
  refine own_jumpW (f' := (mkF m 75 #[.val (.int i0), .val (.int i1), .val (.int i2), .val (.int i3), .val (.int i4), .val (.int vb), .val (.int nn), .val (.int vk), .val (.ref b5), .unset, .unset, .unset, .unset, .unset, .unset, .unset, .unset, .unset, .unset] [(.ref b8)])) st10 ?_
  refine own_stepW (f' := (mkF m 77 #[.val (.int i0), .val (.int i1), .val (.int i2), .val (.int i3), .val (.int i4), .val (.int vb), .val (.int nn), .val (.int vk), .val (.ref b5), .val (.ref b8), .unset, .unset, .unset, .unset, .unset, .unset, .unset, .unset, .unset] [])) (fun _ k => XS.astore X10.here hx rfl (hb hby at_75) rfl rfl (l' := #[.val (.int i0), .val (.int i1), .val (.int i2), .val (.int i3), .val (.int i4), .val (.int vb), .val (.int nn), .val (.int vk), .val (.ref b5), .val (.ref b8), .unset, .unset, .unset, .unset, .unset, .unset, .unset, .unset, .unset]) rfl k) ?_
  obtain ⟨T11, h11, X11, e11, E11, A11, D11, -, st11⟩ := newO X10 hx hZ hown (own_w0 hw) (own_w1 hw) (own_w2 hw) rfl (g := (mkF m 77 #[.val (.int i0), .val (.int i1), .val (.int i2), .val (.int i3), .val (.int i4), .val (.int vb), .val (.int nn), .val (.int vk), .val (.ref b5), .val (.ref b8), .unset, .unset, .unset, .unset, .unset, .unset, .unset, .unset, .unset] [])) rfl (hb hby at_77) (by decide) (by decide)
  obtain ⟨b11, g11⟩ : ∃ z, z = T10.heap.size := ⟨_, rfl⟩
  rw [← g11] at A11 D11 st11
  have g_b11 : n0 ≤ b11 := Nat.le_trans (Nat.le_trans (Nat.le_trans (Nat.le_trans (Nat.le_trans (Nat.le_trans (Nat.le_trans Z0 E5.1) K6.1) K7.1) E8.1) K9.1) K10.1) (Nat.le_of_eq g11.symm)
  have F_token_b11 : Fld Z h11 b11 own_NM "token" "I" (.int (0 : Int32)) := D11 (Or.inr (own_w34 hw)) own_fd_2
  have F_name_b11 : Fld Z h11 b11 own_NM "name" "Ljava/lang/String;" .null := D11 (Or.inr (own_w36 hw)) own_fd_3
  refine own_stepW (f' := (mkF m 80 #[.val (.int i0), .val (.int i1), .val (.int i2), .val (.int i3), .val (.int i4), .val (.int vb), .val (.int nn), .val (.int vk), .val (.ref b5), .val (.ref b8), .unset, .unset, .unset, .unset, .unset, .unset, .unset, .unset, .unset] [(.ref b11)])) st11 ?_
  refine own_stepW (f' := (mkF m 81 #[.val (.int i0), .val (.int i1), .val (.int i2), .val (.int i3), .val (.int i4), .val (.int vb), .val (.int nn), .val (.int vk), .val (.ref b5), .val (.ref b8), .unset, .unset, .unset, .unset, .unset, .unset, .unset, .unset, .unset] [(.ref b11), (.ref b11)])) (fun _ k => XS.dup X11.here hx rfl (hb hby at_80) rfl rfl k) ?_
  refine own_stepW (f' := (mkF m 82 #[.val (.int i0), .val (.int i1), .val (.int i2), .val (.int i3), .val (.int i4), .val (.int vb), .val (.int nn), .val (.int vk), .val (.ref b5), .val (.ref b8), .unset, .unset, .unset, .unset, .unset, .unset, .unset, .unset, .unset] [(.int i3), (.ref b11), (.ref b11)])) (fun _ k => XS.iloadN X11.here hx rfl (hb hby at_81) rfl k) ?_
  refine own_stepW (f' := (mkF m 84 #[.val (.int i0), .val (.int i1), .val (.int i2), .val (.int i3), .val (.int i4), .val (.int vb), .val (.int nn), .val (.int vk), .val (.ref b5), .val (.ref b8), .unset, .unset, .unset, .unset, .unset, .unset, .unset, .unset, .unset] [(.int i4), (.int i3), (.ref b11), (.ref b11)])) (fun _ k => XS.iload X11.here hx rfl (hb hby at_82) rfl k) ?_
  refine own_stepW (f' := (mkF m 86 #[.val (.int i0), .val (.int i1), .val (.int i2), .val (.int i3), .val (.int i4), .val (.int vb), .val (.int nn), .val (.int vk), .val (.ref b5), .val (.ref b8), .unset, .unset, .unset, .unset, .unset, .unset, .unset, .unset, .unset] [(.int (16 : Int32)), (.int i4), (.int i3), (.ref b11), (.ref b11)])) (fun _ k => XS.bipush X11.here hx rfl (hb hby at_84) k) ?_
  refine own_stepW (f' := (mkF m 87 #[.val (.int i0), .val (.int i1), .val (.int i2), .val (.int i3), .val (.int i4), .val (.int vb), .val (.int nn), .val (.int vk), .val (.ref b5), .val (.ref b8), .unset, .unset, .unset, .unset, .unset, .unset, .unset, .unset, .unset] [(.int ((i4.toUInt32 >>> ((16 : Int32) &&& 31).toUInt32).toInt32)), (.int i3), (.ref b11), (.ref b11)])) (fun _ k => XS.iushr X11.here hx rfl (hb hby at_86) rfl k) ?_
  refine own_stepW (f' := (mkF m 90 #[.val (.int i0), .val (.int i1), .val (.int i2), .val (.int i3), .val (.int i4), .val (.int vb), .val (.int nn), .val (.int vk), .val (.ref b5), .val (.ref b8), .unset, .unset, .unset, .unset, .unset, .unset, .unset, .unset, .unset] [(.int (255 : Int32)), (.int ((i4.toUInt32 >>> ((16 : Int32) &&& 31).toUInt32).toInt32)), (.int i3), (.ref b11), (.ref b11)])) (fun _ k => XS.sipush X11.here hx rfl (hb hby at_87) k) ?_
  refine own_stepW (f' := (mkF m 91 #[.val (.int i0), .val (.int i1), .val (.int i2), .val (.int i3), .val (.int i4), .val (.int vb), .val (.int nn), .val (.int vk), .val (.ref b5), .val (.ref b8), .unset, .unset, .unset, .unset, .unset, .unset, .unset, .unset, .unset] [(.int (((i4.toUInt32 >>> ((16 : Int32) &&& 31).toUInt32).toInt32) &&& (255 : Int32))), (.int i3), (.ref b11), (.ref b11)])) (fun _ k => XS.iand X11.here hx rfl (hb hby at_90) rfl k) ?_
  refine own_stepW (f' := (mkF m 92 #[.val (.int i0), .val (.int i1), .val (.int i2), .val (.int i3), .val (.int i4), .val (.int vb), .val (.int nn), .val (.int vk), .val (.ref b5), .val (.ref b8), .unset, .unset, .unset, .unset, .unset, .unset, .unset, .unset, .unset] [(.int ((((i4.toUInt32 >>> ((16 : Int32) &&& 31).toUInt32).toInt32) &&& (255 : Int32)).toUInt32.toUInt16.toUInt32.toInt32)), (.int i3), (.ref b11), (.ref b11)])) (fun _ k => XS.i2c X11.here hx rfl (hb hby at_91) rfl k) ?_
  have hp12_hcz : ¬ cz = (0 : Int32) := hcz
  have hp12_hq : ¬ (255 : Int32) < ((((i4.toUInt32 >>> ((16 : Int32) &&& 31).toUInt32).toInt32) &&& (255 : Int32)).toUInt32.toUInt16.toUInt32.toInt32) := own_c255 _
  have Zq12 : n0 ≤ h11.size := (Nat.le_trans (Nat.le_trans (Nat.le_trans (Nat.le_trans (Nat.le_trans (Nat.le_trans (Nat.le_trans Z0 E5.1) K6.1) K7.1) E8.1) K9.1) K10.1) E11.1)
  obtain ⟨_, _, ⟨T12, L12, k12, n12⟩, -, X12, ⟨Lc12, hQ12, l12, y12, z12⟩, st12⟩ := Jvm.LawKit.callS X11 hx (y := (⟨"java/lang/String", "valueOf", "(C)Ljava/lang/String;"⟩ : MethodName)) hown (mvT hZ (own_w3 hw)) (mvT hZ (own_w4 hw)) (mvT hZ (own_w5 hw)) (mvT hZ (own_w6 hw)) (by decide) (backOf (W := 3) (rm1 l Z a0 hw [] ((((i4.toUInt32 >>> ((16 : Int32) &&& 31).toUInt32).toInt32) &&& (255 : Int32)).toUInt32.toUInt16.toUInt32.toInt32) cz h11 n0 Zq12 ((own_staKeep (own_staKeep ((own_staKeep (own_staKeep (S_COMPACT_STRINGS.ext E5) K6 all0) K7 (allS (own_exaNS (A5.keep K6)) all0)).ext E8) K9 all0) K10 (allS (own_exaNS (A8.keep K9)) all0)).ext E11) hp12_hcz hp12_hq) hZ (own_w6 hw) (own_w5 hw) (by decide) (by decide)) (g := (mkF m 92 #[.val (.int i0), .val (.int i1), .val (.int i2), .val (.int i3), .val (.int i4), .val (.int vb), .val (.int nn), .val (.int vk), .val (.ref b5), .val (.ref b8), .unset, .unset, .unset, .unset, .unset, .unset, .unset, .unset, .unset] [(.int ((((i4.toUInt32 >>> ((16 : Int32) &&& 31).toUInt32).toInt32) &&& (255 : Int32)).toUInt32.toUInt16.toUInt32.toInt32)), (.int i3), (.ref b11), (.ref b11)])) rfl (by rw [hml]; rfl) (argsL := [(.int ((((i4.toUInt32 >>> ((16 : Int32) &&& 31).toUInt32).toInt32) &&& (255 : Int32)).toUInt32.toUInt16.toUInt32.toInt32))]) (rest := [(.int i3), (.ref b11), (.ref b11)]) (lenOf pd_18 rfl) rfl (by show 2 * 0 + _ ≤ _; exact Nat.le_of_eq rfl) (hb hby at_92) (fun _ _ => ⟨rfl, e11, (by decide : 7 + 2 ≤ _), (by decide : 16 + 5 ≤ _)⟩)
  dsimp only [Pt.U, Pt.locs, Pt.cells, Pt.slots] at X12 l12 y12 z12 st12 hQ12
  subst l12 y12 z12
  obtain ⟨b12, rfl, g_b12, sq_b12, Nq12, K12, P12_0⟩ := hQ12
  obtain ⟨Lo12, X12, N12⟩ : ∃ K, Stand p l e room_1 s m #[(.int i0), (.int i1), (.int i2), (.int i3), (.int i4)] below meth c T12 K 9 21 ∧ Fr n0 K := ⟨_, X12, (Fr.app N10 Nq12)⟩
  have ne_b11_b12 : b11 ≠ b12 := Nat.ne_of_lt (Nat.lt_of_lt_of_le F_token_b11.lt sq_b12)
  refine own_stepW (f' := (mkF m 95 #[.val (.int i0), .val (.int i1), .val (.int i2), .val (.int i3), .val (.int i4), .val (.int vb), .val (.int nn), .val (.int vk), .val (.ref b5), .val (.ref b8), .unset, .unset, .unset, .unset, .unset, .unset, .unset, .unset, .unset] [(.ref b12), (.int i3), (.ref b11), (.ref b11)])) st12 ?_
  have Zq13 : n0 ≤ T12.heap.size := (Nat.le_trans (Nat.le_trans (Nat.le_trans (Nat.le_trans (Nat.le_trans (Nat.le_trans (Nat.le_trans (Nat.le_trans Z0 E5.1) K6.1) K7.1) E8.1) K9.1) K10.1) E11.1) K12.1)
  obtain ⟨_, _, ⟨T13, L13, k13, n13⟩, -, X13, ⟨Lc13, hQ13, l13, y13, z13⟩, st13⟩ := X12.specialBack hx (y := (⟨own_NM, "<init>", "(ILjava/lang/String;)V"⟩ : MethodName)) rfl hown (mvT hZ (own_w29 hw)) (mvT hZ (own_w30 hw)) (mvT hZ (own_w31 hw)) (by decide) (backOf (W := 1) (rm6 l Z a0 hw [] b11 i3 b12 (.int (0 : Int32)) .null T12.heap n0 Zq13 (A11.keep K12) (F_token_b11.keep K12 nin0) (F_name_b11.keep K12 nin0) g_b11) hZ (own_w31 hw) (own_w2 hw) (by decide) (by decide)) (g := (mkF m 95 #[.val (.int i0), .val (.int i1), .val (.int i2), .val (.int i3), .val (.int i4), .val (.int vb), .val (.int nn), .val (.int vk), .val (.ref b5), .val (.ref b8), .unset, .unset, .unset, .unset, .unset, .unset, .unset, .unset, .unset] [(.ref b12), (.int i3), (.ref b11), (.ref b11)])) rfl (by rw [hml]; rfl) (Steps.refl _) (a := b11) (argsL := [(.int i3), (.ref b12)]) (rest := [(.ref b11)]) (lenOf pd_19 rfl) rfl (by show 2 * 0 + _ ≤ _; exact Nat.le_of_eq rfl) (hb hby at_95) (fun _ _ => ⟨rfl, rfl, (by decide : 9 + 0 ≤ _), (by decide : 21 + 0 ≤ _)⟩)
  dsimp only [Pt.U, Pt.locs, Pt.cells, Pt.slots] at X13 l13 y13 z13 st13 hQ13
  subst l13 y13 z13
  obtain ⟨rfl, Nq13, K13, P13_0⟩ := hQ13
  obtain ⟨Lo13, X13, N13⟩ : ∃ K, Stand p l e room_1 s m #[(.int i0), (.int i1), (.int i2), (.int i3), (.int i4)] below meth c T13 K 9 21 ∧ Fr n0 K := ⟨_, X13, (Fr.app N12 Nq13)⟩
  refine own_jumpW (f' := (mkF m 98 #[.val (.int i0), .val (.int i1), .val (.int i2), .val (.int i3), .val (.int i4), .val (.int vb), .val (.int nn), .val (.int vk), .val (.ref b5), .val (.ref b8), .unset, .unset, .unset, .unset, .unset, .unset, .unset, .unset, .unset] [(.ref b11)])) st13 ?_
  refine own_stepW (f' := (mkF m 100 #[.val (.int i0), .val (.int i1), .val (.int i2), .val (.int i3), .val (.int i4), .val (.int vb), .val (.int nn), .val (.int vk), .val (.ref b5), .val (.ref b8), .val (.ref b11), .unset, .unset, .unset, .unset, .unset, .unset, .unset, .unset] [])) (fun _ k => XS.astore X13.here hx rfl (hb hby at_98) rfl rfl (l' := #[.val (.int i0), .val (.int i1), .val (.int i2), .val (.int i3), .val (.int i4), .val (.int vb), .val (.int nn), .val (.int vk), .val (.ref b5), .val (.ref b8), .val (.ref b11), .unset, .unset, .unset, .unset, .unset, .unset, .unset, .unset]) rfl k) ?_
  refine own_stepW (f' := (mkF m 102 #[.val (.int i0), .val (.int i1), .val (.int i2), .val (.int i3), .val (.int i4), .val (.int vb), .val (.int nn), .val (.int vk), .val (.ref b5), .val (.ref b8), .val (.ref b11), .unset, .unset, .unset, .unset, .unset, .unset, .unset, .unset] [(.int i4)])) (fun _ k => XS.iload X13.here hx rfl (hb hby at_100) rfl k) ?_
  refine own_stepW (f' := (mkF m 104 #[.val (.int i0), .val (.int i1), .val (.int i2), .val (.int i3), .val (.int i4), .val (.int vb), .val (.int nn), .val (.int vk), .val (.ref b5), .val (.ref b8), .val (.ref b11), .unset, .unset, .unset, .unset, .unset, .unset, .unset, .unset] [(.int (16777216 : Int32)), (.int i4)])) (fun _ k => X13.ldcInt hx hown (mvT hZ (own_w37 hw)) (g := (mkF m 102 #[.val (.int i0), .val (.int i1), .val (.int i2), .val (.int i3), .val (.int i4), .val (.int vb), .val (.int nn), .val (.int vk), .val (.ref b5), .val (.ref b8), .val (.ref b11), .unset, .unset, .unset, .unset, .unset, .unset, .unset, .unset] [(.int i4)])) rfl (hb hby at_102) _ k) ?_
  refine own_stepW (f' := (mkF m 105 #[.val (.int i0), .val (.int i1), .val (.int i2), .val (.int i3), .val (.int i4), .val (.int vb), .val (.int nn), .val (.int vk), .val (.ref b5), .val (.ref b8), .val (.ref b11), .unset, .unset, .unset, .unset, .unset, .unset, .unset, .unset] [(.int (i4 &&& (16777216 : Int32)))])) (fun _ k => XS.iand X13.here hx rfl (hb hby at_104) rfl k) ?_
  have J105_20 := own_J105_20 l Z a0 hw h0 n0 p e s m below meth c hx hby hlk hml hown0 hZ0 hret i0 i1 i2 i3 i4 cz vb nn vk b5 b6 b8 b9 b11 b12 hcz hv3_2_0 hnn hv24_4_0
  by_cases hc105_14 : (i4 &&& (16777216 : Int32)) = (0 : Int32)
  · refine own_stepW (f' := (mkF m 112 #[.val (.int i0), .val (.int i1), .val (.int i2), .val (.int i3), .val (.int i4), .val (.int vb), .val (.int nn), .val (.int vk), .val (.ref b5), .val (.ref b8), .val (.ref b11), .unset, .unset, .unset, .unset, .unset, .unset, .unset, .unset] [])) (fun _ k => XS.ifYes X13.here hx rfl (pc0 := 105) (pc' := 112) rfl (hb hby at_105) rfl ((if0 _ _).trans (teq hc105_14).1) (by decide) (by decide) k) ?_
    obtain ⟨T1015, h1015, X1015, e1015, E1015, A1015, D1015, -, st1015⟩ := newO X13 hx hZ hown (own_w38 hw) (own_w13 hw) (own_w5 hw) rfl (g := (mkF m 112 #[.val (.int i0), .val (.int i1), .val (.int i2), .val (.int i3), .val (.int i4), .val (.int vb), .val (.int nn), .val (.int vk), .val (.ref b5), .val (.ref b8), .val (.ref b11), .unset, .unset, .unset, .unset, .unset, .unset, .unset, .unset] [])) rfl (hb hby at_112) (by decide) (by decide)
    obtain ⟨b1015, g1015⟩ : ∃ z, z = T13.heap.size := ⟨_, rfl⟩
    rw [← g1015] at A1015 D1015 st1015
    have g_b1015 : n0 ≤ b1015 := Nat.le_trans (Nat.le_trans (Nat.le_trans (Nat.le_trans (Nat.le_trans (Nat.le_trans (Nat.le_trans (Nat.le_trans (Nat.le_trans (Nat.le_trans Z0 E5.1) K6.1) K7.1) E8.1) K9.1) K10.1) E11.1) K12.1) K13.1) (Nat.le_of_eq g1015.symm)
    have F_value_b1015 : Fld Z h1015 b1015 "java/lang/String" "value" "[B" .null := D1015 (Or.inr (own_w26 hw)) own_fd_0
    have F_coder_b1015 : Fld Z h1015 b1015 "java/lang/String" "coder" "B" (.int (0 : Int32)) := D1015 (Or.inr (own_w28 hw)) own_fd_1
    refine own_stepW (f' := (mkF m 115 #[.val (.int i0), .val (.int i1), .val (.int i2), .val (.int i3), .val (.int i4), .val (.int vb), .val (.int nn), .val (.int vk), .val (.ref b5), .val (.ref b8), .val (.ref b11), .unset, .unset, .unset, .unset, .unset, .unset, .unset, .unset] [(.ref b1015)])) st1015 ?_
    refine own_stepW (f' := (mkF m 116 #[.val (.int i0), .val (.int i1), .val (.int i2), .val (.int i3), .val (.int i4), .val (.int vb), .val (.int nn), .val (.int vk), .val (.ref b5), .val (.ref b8), .val (.ref b11), .unset, .unset, .unset, .unset, .unset, .unset, .unset, .unset] [(.ref b1015), (.ref b1015)])) (fun _ k => XS.dup X1015.here hx rfl (hb hby at_115) rfl rfl k) ?_
    refine own_stepW (f' := (mkF m 117 #[.val (.int i0), .val (.int i1), .val (.int i2), .val (.int i3), .val (.int i4), .val (.int vb), .val (.int nn), .val (.int vk), .val (.ref b5), .val (.ref b8), .val (.ref b11), .unset, .unset, .unset, .unset, .unset, .unset, .unset, .unset] [(.int (1 : Int32)), (.ref b1015), (.ref b1015)])) (fun _ k => XS.iconst X1015.here hx rfl (hb hby at_116) k) ?_
    obtain ⟨T1016, h1016, k1016, X1016, e1016, E1016, A1016, st1016⟩ := newP X1015 hx hZ (aty := .char) (own_w39 hw) e1015 (g := (mkF m 117 #[.val (.int i0), .val (.int i1), .val (.int i2), .val (.int i3), .val (.int i4), .val (.int vb), .val (.int nn), .val (.int vk), .val (.ref b5), .val (.ref b8), .val (.ref b11), .unset, .unset, .unset, .unset, .unset, .unset, .unset, .unset] [(.int (1 : Int32)), (.ref b1015), (.ref b1015)])) rfl (hb hby at_117) rfl (by decide) (cap := 1) (by decide) (by decide) (by decide) (by decide)
    obtain ⟨b1016, g1016⟩ : ∃ z, z = h1015.size := ⟨_, rfl⟩
    rw [← g1016] at A1016 st1016
    have ne_b1015_b1016 : b1015 ≠ b1016 := Nat.ne_of_lt (Nat.lt_of_lt_of_le F_value_b1015.lt (Nat.le_of_eq g1016.symm))
    have g_b1016 : n0 ≤ b1016 := Nat.le_trans (Nat.le_trans (Nat.le_trans (Nat.le_trans (Nat.le_trans (Nat.le_trans (Nat.le_trans (Nat.le_trans (Nat.le_trans (Nat.le_trans (Nat.le_trans Z0 E5.1) K6.1) K7.1) E8.1) K9.1) K10.1) E11.1) K12.1) K13.1) E1015.1) (Nat.le_of_eq g1016.symm)
    have V_b1016 : Arv Z h1016 b1016 k1016 .char (1 : Int32) [(.int (0 : Int32))] (.int (0 : Int32)) := (Arv.new A1016 (by decide)).pad (pad_rep [] (.int (0 : Int32)) 1)
    refine own_stepW (f' := (mkF m 119 #[.val (.int i0), .val (.int i1), .val (.int i2), .val (.int i3), .val (.int i4), .val (.int vb), .val (.int nn), .val (.int vk), .val (.ref b5), .val (.ref b8), .val (.ref b11), .unset, .unset, .unset, .unset, .unset, .unset, .unset, .unset] [(.ref b1016), (.ref b1015), (.ref b1015)])) st1016 ?_
    refine own_stepW (f' := (mkF m 120 #[.val (.int i0), .val (.int i1), .val (.int i2), .val (.int i3), .val (.int i4), .val (.int vb), .val (.int nn), .val (.int vk), .val (.ref b5), .val (.ref b8), .val (.ref b11), .unset, .unset, .unset, .unset, .unset, .unset, .unset, .unset] [(.ref b1016), (.ref b1016), (.ref b1015), (.ref b1015)])) (fun _ k => XS.dup X1016.here hx rfl (hb hby at_119) rfl rfl k) ?_
    refine own_stepW (f' := (mkF m 121 #[.val (.int i0), .val (.int i1), .val (.int i2), .val (.int i3), .val (.int i4), .val (.int vb), .val (.int nn), .val (.int vk), .val (.ref b5), .val (.ref b8), .val (.ref b11), .unset, .unset, .unset, .unset, .unset, .unset, .unset, .unset] [(.int (0 : Int32)), (.ref b1016), (.ref b1016), (.ref b1015), (.ref b1015)])) (fun _ k => XS.iconst X1016.here hx rfl (hb hby at_120) k) ?_
    refine own_stepW (f' := (mkF m 123 #[.val (.int i0), .val (.int i1), .val (.int i2), .val (.int i3), .val (.int i4), .val (.int vb), .val (.int nn), .val (.int vk), .val (.ref b5), .val (.ref b8), .val (.ref b11), .unset, .unset, .unset, .unset, .unset, .unset, .unset, .unset] [(.int i4), (.int (0 : Int32)), (.ref b1016), (.ref b1016), (.ref b1015), (.ref b1015)])) (fun _ k => XS.iload X1016.here hx rfl (hb hby at_121) rfl k) ?_
    refine own_stepW (f' := (mkF m 125 #[.val (.int i0), .val (.int i1), .val (.int i2), .val (.int i3), .val (.int i4), .val (.int vb), .val (.int nn), .val (.int vk), .val (.ref b5), .val (.ref b8), .val (.ref b11), .unset, .unset, .unset, .unset, .unset, .unset, .unset, .unset] [(.int (8 : Int32)), (.int i4), (.int (0 : Int32)), (.ref b1016), (.ref b1016), (.ref b1015), (.ref b1015)])) (fun _ k => XS.bipush X1016.here hx rfl (hb hby at_123) k) ?_
    refine own_stepW (f' := (mkF m 126 #[.val (.int i0), .val (.int i1), .val (.int i2), .val (.int i3), .val (.int i4), .val (.int vb), .val (.int nn), .val (.int vk), .val (.ref b5), .val (.ref b8), .val (.ref b11), .unset, .unset, .unset, .unset, .unset, .unset, .unset, .unset] [(.int ((i4.toUInt32 >>> ((8 : Int32) &&& 31).toUInt32).toInt32)), (.int (0 : Int32)), (.ref b1016), (.ref b1016), (.ref b1015), (.ref b1015)])) (fun _ k => XS.iushr X1016.here hx rfl (hb hby at_125) rfl k) ?_
    refine own_stepW (f' := (mkF m 129 #[.val (.int i0), .val (.int i1), .val (.int i2), .val (.int i3), .val (.int i4), .val (.int vb), .val (.int nn), .val (.int vk), .val (.ref b5), .val (.ref b8), .val (.ref b11), .unset, .unset, .unset, .unset, .unset, .unset, .unset, .unset] [(.int (255 : Int32)), (.int ((i4.toUInt32 >>> ((8 : Int32) &&& 31).toUInt32).toInt32)), (.int (0 : Int32)), (.ref b1016), (.ref b1016), (.ref b1015), (.ref b1015)])) (fun _ k => XS.sipush X1016.here hx rfl (hb hby at_126) k) ?_
    refine own_stepW (f' := (mkF m 130 #[.val (.int i0), .val (.int i1), .val (.int i2), .val (.int i3), .val (.int i4), .val (.int vb), .val (.int nn), .val (.int vk), .val (.ref b5), .val (.ref b8), .val (.ref b11), .unset, .unset, .unset, .unset, .unset, .unset, .unset, .unset] [(.int (((i4.toUInt32 >>> ((8 : Int32) &&& 31).toUInt32).toInt32) &&& (255 : Int32))), (.int (0 : Int32)), (.ref b1016), (.ref b1016), (.ref b1015), (.ref b1015)])) (fun _ k => XS.iand X1016.here hx rfl (hb hby at_129) rfl k) ?_
    refine own_stepW (f' := (mkF m 131 #[.val (.int i0), .val (.int i1), .val (.int i2), .val (.int i3), .val (.int i4), .val (.int vb), .val (.int nn), .val (.int vk), .val (.ref b5), .val (.ref b8), .val (.ref b11), .unset, .unset, .unset, .unset, .unset, .unset, .unset, .unset] [(.int ((((i4.toUInt32 >>> ((8 : Int32) &&& 31).toUInt32).toInt32) &&& (255 : Int32)).toUInt32.toUInt16.toUInt32.toInt32)), (.int (0 : Int32)), (.ref b1016), (.ref b1016), (.ref b1015), (.ref b1015)])) (fun _ k => XS.i2c X1016.here hx rfl (hb hby at_130) rfl k) ?_
    obtain ⟨cl1017, Ar1017, qa1017, Sa1017, Na1017, Ha1017, Ga1017⟩ := id (V_b1016)
    have hin1018 : ¬ ((0 : Int32) < 0 ∨ cl1017.slots.size ≤ ((0 : Int32)).toNatClampNeg) := inb_of Sa1017 ⟨by decide, by decide⟩
    obtain ⟨T1018, h1018, X1018, e1018, W1018, st1018⟩ := stC X1016 hx hZ e1016 Ar1017 (j := (0 : Int32)) hin1018 (g := (mkF m 131 #[.val (.int i0), .val (.int i1), .val (.int i2), .val (.int i3), .val (.int i4), .val (.int vb), .val (.int nn), .val (.int vk), .val (.ref b5), .val (.ref b8), .val (.ref b11), .unset, .unset, .unset, .unset, .unset, .unset, .unset, .unset] [(.int ((((i4.toUInt32 >>> ((8 : Int32) &&& 31).toUInt32).toInt32) &&& (255 : Int32)).toUInt32.toUInt16.toUInt32.toInt32)), (.int (0 : Int32)), (.ref b1016), (.ref b1016), (.ref b1015), (.ref b1015)])) rfl rfl (hb hby at_131)
    have V1018 : Arv Z h1018 b1016 k1016 .char (1 : Int32) [(.int (nar .char ((((i4.toUInt32 >>> ((8 : Int32) &&& 31).toUInt32).toInt32) &&& (255 : Int32)).toUInt32.toUInt16.toUInt32.toInt32)))] (.int (0 : Int32)) := Arv.set Ar1017 qa1017 Sa1017 Na1017 Ha1017 Ga1017 (fits_nar_char _) W1018 0 rfl (Nat.le_of_ble_eq_true rfl)
    obtain ⟨Lo1018, X1018, N1018⟩ : ∃ K, Stand p l e room_1 s m #[(.int i0), (.int i1), (.int i2), (.int i3), (.int i4)] below meth c T1018 K 11 26 ∧ Fr n0 K := ⟨_, X1018, (Fr.snoc X1018 N13 g_b1016)⟩
    refine own_stepW (f' := (mkF m 132 #[.val (.int i0), .val (.int i1), .val (.int i2), .val (.int i3), .val (.int i4), .val (.int vb), .val (.int nn), .val (.int vk), .val (.ref b5), .val (.ref b8), .val (.ref b11), .unset, .unset, .unset, .unset, .unset, .unset, .unset, .unset] [(.ref b1016), (.ref b1015), (.ref b1015)])) st1018 ?_
    have hp1019_hcz : ¬ cz = (0 : Int32) := hcz
    have hp1019_hq : ¬ (255 : Int32) < (nar .char ((((i4.toUInt32 >>> ((8 : Int32) &&& 31).toUInt32).toInt32) &&& (255 : Int32)).toUInt32.toUInt16.toUInt32.toInt32)) := own_n255 _
    have Zq1019 : n0 ≤ h1018.size := (Nat.le_trans (Nat.le_trans (Nat.le_trans (Nat.le_trans (Nat.le_trans (Nat.le_trans (Nat.le_trans (Nat.le_trans (Nat.le_trans (Nat.le_trans (Nat.le_trans (Nat.le_trans Z0 E5.1) K6.1) K7.1) E8.1) K9.1) K10.1) E11.1) K12.1) K13.1) E1015.1) E1016.1) (Nat.le_of_eq W1018.size.symm))
    obtain ⟨_, _, ⟨T1019, L1019, k1019, n1019⟩, -, X1019, ⟨Lc1019, hQ1019, l1019, y1019, z1019⟩, st1019⟩ := X1018.specialBack hx (y := (⟨"java/lang/String", "<init>", "([C)V"⟩ : MethodName)) rfl hown (mvT hZ (own_w40 hw)) (mvT hZ (own_w41 hw)) (mvT hZ (own_w42 hw)) (by decide) (backOf (W := 1) (rm7 l Z a0 hw [] b1015 b1016 .null (.int (0 : Int32)) k1016 (nar .char ((((i4.toUInt32 >>> ((8 : Int32) &&& 31).toUInt32).toInt32) &&& (255 : Int32)).toUInt32.toUInt16.toUInt32.toInt32)) cz h1018 n0 Zq1019 ((A1015.ext E1016).wr W1018) ((F_value_b1015.ext E1016).other W1018 (Or.inl ne_b1015_b1016)) ((F_coder_b1015.ext E1016).other W1018 (Or.inl ne_b1015_b1016)) g_b1015 V1018 (Ne.symm ne_b1015_b1016) ((((own_staKeep (own_staKeep ((own_staKeep (own_staKeep ((own_staKeep (own_staKeep (S_COMPACT_STRINGS.ext E5) K6 all0) K7 (allS (own_exaNS (A5.keep K6)) all0)).ext E8) K9 all0) K10 (allS (own_exaNS (A8.keep K9)) all0)).ext E11) K12 all0) K13 (allS (own_exaNS (A11.keep K12)) all0)).ext E1015).ext E1016).wr W1018) hp1019_hcz hp1019_hq) hZ (own_w42 hw) (own_w5 hw) (by decide) (by decide)) (g := (mkF m 132 #[.val (.int i0), .val (.int i1), .val (.int i2), .val (.int i3), .val (.int i4), .val (.int vb), .val (.int nn), .val (.int vk), .val (.ref b5), .val (.ref b8), .val (.ref b11), .unset, .unset, .unset, .unset, .unset, .unset, .unset, .unset] [(.ref b1016), (.ref b1015), (.ref b1015)])) rfl (by rw [hml]; rfl) (Steps.refl _) (a := b1015) (argsL := [(.ref b1016)]) (rest := [(.ref b1015)]) (lenOf pd_20 rfl) rfl (by show 2 * 0 + _ ≤ _; exact Nat.le_of_eq rfl) (hb hby at_132) (fun _ _ => ⟨rfl, e1018, (by decide : 11 + 1 ≤ _), (by decide : 26 + 1 ≤ _)⟩)
    dsimp only [Pt.U, Pt.locs, Pt.cells, Pt.slots] at X1019 l1019 y1019 z1019 st1019 hQ1019
    subst l1019 y1019 z1019
    obtain ⟨rfl, Nq1019, K1019, P1019_0⟩ := hQ1019
    obtain ⟨Lo1019, X1019, N1019⟩ : ∃ K, Stand p l e room_1 s m #[(.int i0), (.int i1), (.int i2), (.int i3), (.int i4)] below meth c T1019 K 12 27 ∧ Fr n0 K := ⟨_, X1019, (Fr.app N1018 Nq1019)⟩
    refine own_jumpW (f' := (mkF m 135 #[.val (.int i0), .val (.int i1), .val (.int i2), .val (.int i3), .val (.int i4), .val (.int vb), .val (.int nn), .val (.int vk), .val (.ref b5), .val (.ref b8), .val (.ref b11), .unset, .unset, .unset, .unset, .unset, .unset, .unset, .unset] [(.ref b1015)])) st1019 ?_
    exact J105_20 _ T1019.heap _ (.ref b1015) (X1019.mono (by decide) (by decide)) rfl (N1019) ((Nat.le_trans (Nat.le_trans (Nat.le_trans (Nat.le_trans (Nat.le_trans (Nat.le_trans (Nat.le_trans (Nat.le_trans (Nat.le_trans (Nat.le_trans (Nat.le_trans (Nat.le_trans (Nat.le_trans Z0 E5.1) K6.1) K7.1) E8.1) K9.1) K10.1) E11.1) K12.1) K13.1) E1015.1) E1016.1) (Nat.le_of_eq W1018.size.symm)) K1019.1))  ((own_staKeep ((((own_staKeep (own_staKeep ((own_staKeep (own_staKeep ((own_staKeep (own_staKeep (S_COMPACT_STRINGS.ext E5) K6 all0) K7 (allS (own_exaNS (A5.keep K6)) all0)).ext E8) K9 all0) K10 (allS (own_exaNS (A8.keep K9)) all0)).ext E11) K12 all0) K13 (allS (own_exaNS (A11.keep K12)) all0)).ext E1015).ext E1016).wr W1018) K1019 (allS (own_exaNS ((A1015.ext E1016).wr W1018)) all0))) (((((((((((P7_0.ext E8).keep K9).keep K10).ext E11).keep K12).keep K13).ext E1015).ext E1016).wr W1018).keep K1019)) ((((((((((((P6_0.keep K7).ext E8).keep K9).keep K10).ext E11).keep K12).keep K13).ext E1015).ext E1016).wr W1018).keep K1019)) ((((((((P10_0.ext E11).keep K12).keep K13).ext E1015).ext E1016).wr W1018).keep K1019)) (((((((((P9_0.keep K10).ext E11).keep K12).keep K13).ext E1015).ext E1016).wr W1018).keep K1019)) (((((P13_0.ext E1015).ext E1016).wr W1018).keep K1019)) ((((((P12_0.keep K13).ext E1015).ext E1016).wr W1018).keep K1019)) (Or.inr ⟨_, rfl, P1019_0⟩)
  · refine own_stepW (f' := (mkF m 108 #[.val (.int i0), .val (.int i1), .val (.int i2), .val (.int i3), .val (.int i4), .val (.int vb), .val (.int nn), .val (.int vk), .val (.ref b5), .val (.ref b8), .val (.ref b11), .unset, .unset, .unset, .unset, .unset, .unset, .unset, .unset] [])) (fun _ k => XS.ifNo X13.here hx rfl (hb hby at_105) rfl ((if0 _ _).trans (feq hc105_14).1) k) ?_
    refine own_stepW (f' := (mkF m 109 #[.val (.int i0), .val (.int i1), .val (.int i2), .val (.int i3), .val (.int i4), .val (.int vb), .val (.int nn), .val (.int vk), .val (.ref b5), .val (.ref b8), .val (.ref b11), .unset, .unset, .unset, .unset, .unset, .unset, .unset, .unset] [.null])) (fun _ k => XS.aconstNull X13.here hx rfl (hb hby at_108) k) ?_
    refine own_stepW (f' := (mkF m 135 #[.val (.int i0), .val (.int i1), .val (.int i2), .val (.int i3), .val (.int i4), .val (.int vb), .val (.int nn), .val (.int vk), .val (.ref b5), .val (.ref b8), .val (.ref b11), .unset, .unset, .unset, .unset, .unset, .unset, .unset, .unset] [.null])) (fun _ k => XS.goto X13.here hx rfl (pc0 := 109) (pc' := 135) rfl (hb hby at_109) (by decide) (by decide) k) ?_
    exact J105_20 _ T13.heap _ .null (X13.mono (by decide) (by decide)) rfl (N13) ((Nat.le_trans (Nat.le_trans (Nat.le_trans (Nat.le_trans (Nat.le_trans (Nat.le_trans (Nat.le_trans (Nat.le_trans (Nat.le_trans Z0 E5.1) K6.1) K7.1) E8.1) K9.1) K10.1) E11.1) K12.1) K13.1))  ((own_staKeep (own_staKeep ((own_staKeep (own_staKeep ((own_staKeep (own_staKeep (S_COMPACT_STRINGS.ext E5) K6 all0) K7 (allS (own_exaNS (A5.keep K6)) all0)).ext E8) K9 all0) K10 (allS (own_exaNS (A8.keep K9)) all0)).ext E11) K12 all0) K13 (allS (own_exaNS (A11.keep K12)) all0))) (((((((P7_0.ext E8).keep K9).keep K10).ext E11).keep K12).keep K13)) ((((((((P6_0.keep K7).ext E8).keep K9).keep K10).ext E11).keep K12).keep K13)) ((((P10_0.ext E11).keep K12).keep K13)) (((((P9_0.keep K10).ext E11).keep K12).keep K13)) (P13_0) ((P12_0.keep K13)) (Or.inl rfl)
set_option maxRecDepth 65536 in
set_option maxHeartbeats 40000000 in
theorem own_J3_2 (l : Launch) (Z : State) (a0 : Array Value) (hw : own_HW a0 Z) (h0 : Heap) (n0 : Nat) (p : Program) (e : Env) (s : State) (m : MethodId) (below : List Frame) (meth : Method) (c : Code) (hx : p.tables.exec = Jvm.exec) (hby : c.code = code) (hlk : meth.locks = false) (hml : c.maxLocals = 19) (hown0 : s.vm.findClass "com/example/valbonne/valbonne/codec/AttributeCodingsAddPinLaw" = some m.cls) (hZ0 : Z.Warmed39 s.vm) (hret : meth.sig.returnType = some .boolean) (i0 : Int32) (i1 : Int32) (i2 : Int32) (i3 : Int32) (i4 : Int32) (cz : Int32) (S_COMPACT_STRINGS : Sta Z h0 "java/lang/String" "COMPACT_STRINGS" "Z" (.int cz)) (hcz : ¬ cz = (0 : Int32)) (N0 : Fr n0 []) (Z0 : n0 ≤ h0.size) : ∀ (T3_2 : State) (vb : Int32), Stand p l e room_1 s m #[(.int i0), (.int i1), (.int i2), (.int i3), (.int i4)] below meth c T3_2 [] 0 0 → T3_2.heap = h0 → vb = (if (i0 &&& (1 : Int32)) = (0 : Int32) then (0 : Int32) else (1 : Int32)) → own_GoesW p e below s (Q0 Z i0 i1 i2 i3 i4 cz h0 n0) room_1.cells room_1.slots T3_2 (mkF m 11 #[.val (.int i0), .val (.int i1), .val (.int i2), .val (.int i3), .val (.int i4), .unset, .unset, .unset, .unset, .unset, .unset, .unset, .unset, .unset, .unset, .unset, .unset, .unset, .unset] [(.int vb)]) := by
  have hown := hown0
  have hZ := hZ0
  intro T3_2 vb X3_2 e3_2 hv3_2_0
  refine own_stepW (f' := (mkF m 13 #[.val (.int i0), .val (.int i1), .val (.int i2), .val (.int i3), .val (.int i4), .val (.int vb), .unset, .unset, .unset, .unset, .unset, .unset, .unset, .unset, .unset, .unset, .unset, .unset, .unset] [])) (fun _ k => XS.istore X3_2.here hx rfl (hb hby at_11) rfl (l' := #[.val (.int i0), .val (.int i1), .val (.int i2), .val (.int i3), .val (.int i4), .val (.int vb), .unset, .unset, .unset, .unset, .unset, .unset, .unset, .unset, .unset, .unset, .unset, .unset, .unset]) rfl k) ?_
  refine own_stepW (f' := (mkF m 14 #[.val (.int i0), .val (.int i1), .val (.int i2), .val (.int i3), .val (.int i4), .val (.int vb), .unset, .unset, .unset, .unset, .unset, .unset, .unset, .unset, .unset, .unset, .unset, .unset, .unset] [(.int i0)])) (fun _ k => XS.iloadN X3_2.here hx rfl (hb hby at_13) rfl k) ?_
  refine own_stepW (f' := (mkF m 15 #[.val (.int i0), .val (.int i1), .val (.int i2), .val (.int i3), .val (.int i4), .val (.int vb), .unset, .unset, .unset, .unset, .unset, .unset, .unset, .unset, .unset, .unset, .unset, .unset, .unset] [(.int (1 : Int32)), (.int i0)])) (fun _ k => XS.iconst X3_2.here hx rfl (hb hby at_14) k) ?_
  refine own_stepW (f' := (mkF m 16 #[.val (.int i0), .val (.int i1), .val (.int i2), .val (.int i3), .val (.int i4), .val (.int vb), .unset, .unset, .unset, .unset, .unset, .unset, .unset, .unset, .unset, .unset, .unset, .unset, .unset] [(.int ((i0.toUInt32 >>> ((1 : Int32) &&& 31).toUInt32).toInt32))])) (fun _ k => XS.iushr X3_2.here hx rfl (hb hby at_15) rfl k) ?_
  refine own_stepW (f' := (mkF m 17 #[.val (.int i0), .val (.int i1), .val (.int i2), .val (.int i3), .val (.int i4), .val (.int vb), .unset, .unset, .unset, .unset, .unset, .unset, .unset, .unset, .unset, .unset, .unset, .unset, .unset] [(.int (3 : Int32)), (.int ((i0.toUInt32 >>> ((1 : Int32) &&& 31).toUInt32).toInt32))])) (fun _ k => XS.iconst X3_2.here hx rfl (hb hby at_16) k) ?_
  refine own_stepW (f' := (mkF m 18 #[.val (.int i0), .val (.int i1), .val (.int i2), .val (.int i3), .val (.int i4), .val (.int vb), .unset, .unset, .unset, .unset, .unset, .unset, .unset, .unset, .unset, .unset, .unset, .unset, .unset] [(.int (((i0.toUInt32 >>> ((1 : Int32) &&& 31).toUInt32).toInt32) &&& (3 : Int32)))])) (fun _ k => XS.iand X3_2.here hx rfl (hb hby at_17) rfl k) ?_
  refine own_stepW (f' := (mkF m 20 #[.val (.int i0), .val (.int i1), .val (.int i2), .val (.int i3), .val (.int i4), .val (.int vb), .val (.int (((i0.toUInt32 >>> ((1 : Int32) &&& 31).toUInt32).toInt32) &&& (3 : Int32))), .unset, .unset, .unset, .unset, .unset, .unset, .unset, .unset, .unset, .unset, .unset, .unset] [])) (fun _ k => XS.istore X3_2.here hx rfl (hb hby at_18) rfl (l' := #[.val (.int i0), .val (.int i1), .val (.int i2), .val (.int i3), .val (.int i4), .val (.int vb), .val (.int (((i0.toUInt32 >>> ((1 : Int32) &&& 31).toUInt32).toInt32) &&& (3 : Int32))), .unset, .unset, .unset, .unset, .unset, .unset, .unset, .unset, .unset, .unset, .unset, .unset]) rfl k) ?_
  obtain ⟨nn, hnn⟩ : ∃ z, z = (((i0.toUInt32 >>> ((1 : Int32) &&& 31).toUInt32).toInt32) &&& (3 : Int32)) := ⟨_, rfl⟩
  rw [← hnn]
  refine own_stepW (f' := (mkF m 21 #[.val (.int i0), .val (.int i1), .val (.int i2), .val (.int i3), .val (.int i4), .val (.int vb), .val (.int nn), .unset, .unset, .unset, .unset, .unset, .unset, .unset, .unset, .unset, .unset, .unset, .unset] [(.int i0)])) (fun _ k => XS.iloadN X3_2.here hx rfl (hb hby at_20) rfl k) ?_
  refine own_stepW (f' := (mkF m 23 #[.val (.int i0), .val (.int i1), .val (.int i2), .val (.int i3), .val (.int i4), .val (.int vb), .val (.int nn), .unset, .unset, .unset, .unset, .unset, .unset, .unset, .unset, .unset, .unset, .unset, .unset] [(.int (8 : Int32)), (.int i0)])) (fun _ k => XS.bipush X3_2.here hx rfl (hb hby at_21) k) ?_
  refine own_stepW (f' := (mkF m 24 #[.val (.int i0), .val (.int i1), .val (.int i2), .val (.int i3), .val (.int i4), .val (.int vb), .val (.int nn), .unset, .unset, .unset, .unset, .unset, .unset, .unset, .unset, .unset, .unset, .unset, .unset] [(.int (i0 &&& (8 : Int32)))])) (fun _ k => XS.iand X3_2.here hx rfl (hb hby at_23) rfl k) ?_
  have J24_4 := own_J24_4 l Z a0 hw h0 n0 p e s m below meth c hx hby hlk hml hown0 hZ0 hret i0 i1 i2 i3 i4 cz vb nn S_COMPACT_STRINGS hcz N0 Z0 hv3_2_0 hnn
  by_cases hc24_3 : (i0 &&& (8 : Int32)) = (0 : Int32)
  · refine own_stepW (f' := (mkF m 31 #[.val (.int i0), .val (.int i1), .val (.int i2), .val (.int i3), .val (.int i4), .val (.int vb), .val (.int nn), .unset, .unset, .unset, .unset, .unset, .unset, .unset, .unset, .unset, .unset, .unset, .unset] [])) (fun _ k => XS.ifYes X3_2.here hx rfl (pc0 := 24) (pc' := 31) rfl (hb hby at_24) rfl ((if0 _ _).trans (teq hc24_3).1) (by decide) (by decide) k) ?_
    refine own_stepW (f' := (mkF m 32 #[.val (.int i0), .val (.int i1), .val (.int i2), .val (.int i3), .val (.int i4), .val (.int vb), .val (.int nn), .unset, .unset, .unset, .unset, .unset, .unset, .unset, .unset, .unset, .unset, .unset, .unset] [(.int (0 : Int32))])) (fun _ k => XS.iconst X3_2.here hx rfl (hb hby at_31) k) ?_
    exact J24_4 _ (0 : Int32) X3_2 e3_2 (by rw [if_pos hc24_3])
  · refine own_stepW (f' := (mkF m 27 #[.val (.int i0), .val (.int i1), .val (.int i2), .val (.int i3), .val (.int i4), .val (.int vb), .val (.int nn), .unset, .unset, .unset, .unset, .unset, .unset, .unset, .unset, .unset, .unset, .unset, .unset] [])) (fun _ k => XS.ifNo X3_2.here hx rfl (hb hby at_24) rfl ((if0 _ _).trans (feq hc24_3).1) k) ?_
    refine own_stepW (f' := (mkF m 28 #[.val (.int i0), .val (.int i1), .val (.int i2), .val (.int i3), .val (.int i4), .val (.int vb), .val (.int nn), .unset, .unset, .unset, .unset, .unset, .unset, .unset, .unset, .unset, .unset, .unset, .unset] [(.int (1 : Int32))])) (fun _ k => XS.iconst X3_2.here hx rfl (hb hby at_27) k) ?_
    refine own_stepW (f' := (mkF m 32 #[.val (.int i0), .val (.int i1), .val (.int i2), .val (.int i3), .val (.int i4), .val (.int vb), .val (.int nn), .unset, .unset, .unset, .unset, .unset, .unset, .unset, .unset, .unset, .unset, .unset, .unset] [(.int (1 : Int32))])) (fun _ k => XS.goto X3_2.here hx rfl (pc0 := 28) (pc' := 32) rfl (hb hby at_28) (by decide) (by decide) k) ?_
    exact J24_4 _ (1 : Int32) X3_2 e3_2 (by rw [if_neg hc24_3])
theorem ef_0 (m : MethodId) (x0 : Int32) (x1 : Int32) (x2 : Int32) (x3 : Int32) (x4 : Int32) : entryFrame m #[(.int x0), (.int x1), (.int x2), (.int x3), (.int x4)] maxLocals = mkF m 0 #[.val (.int x0), .val (.int x1), .val (.int x2), .val (.int x3), .val (.int x4), .unset, .unset, .unset, .unset, .unset, .unset, .unset, .unset, .unset, .unset, .unset, .unset, .unset, .unset] [] := by first | (simp [entryFrame, mkF, argsToLocals, Value.category, maxLocals]; done) | rfl
set_option maxRecDepth 65536 in
set_option maxHeartbeats 40000000 in
theorem rm0 (l : Launch) (Z : State) (a0 : Array Value) (hw : ∀ d ∈ tables_1, d.before a0 Z = true) (ws : List Jvm.Cond) (i0 : Int32) (i1 : Int32) (i2 : Int32) (i3 : Int32) (i4 : Int32) (cz : Int32) (h0 : Heap) (n0 : Nat) (Z0 : n0 ≤ h0.size) (S_COMPACT_STRINGS : Sta Z h0 "java/lang/String" "COMPACT_STRINGS" "Z" (.int cz)) (hcz : ¬ cz = (0 : Int32)) :
    MetFree l x (head1 (Jvm.Cond.code x code maxLocals ret :: ws) room_1) (fun a U => a = #[(.int i0), (.int i1), (.int i2), (.int i3), (.int i4)] ∧ Z = U ∧ U.heap = h0) (fun _ _ _ _ _ => True) (fun _ U o U' => ∃ v L, o = .returned v ∧ Q0 Z i0 i1 i2 i3 i4 cz h0 n0 v U'.heap L ∧ ReturnedEndW U o U' L room_1.cells room_1.slots) := by
  refine MetFree.of_bodySF (plainFor_of_name pn_8) hisR ?_
  intro p e s m args below meth c s₁ Bd hml0 hP hK
  obtain ⟨rfl, hZU, hh⟩ := hP
  have hZ : Z.Warmed39 s.vm := hZU ▸ State.Warmed39.refl Z
  have hx := Bd.exec
  have hby := Bd.bytes
  have hlk : meth.locks = false := BodyLoose.notSynchronized Bd
  have hml : c.maxLocals = 19 := hml0
  have hown : s.vm.findClass "com/example/valbonne/valbonne/codec/AttributeCodingsAddPinLaw" = some m.cls := findClass_of_methodNamed Bd.named
  have hown0 := hown
  have hZ0 := hZ
  have hnm := (name_of_methodNamed Bd.named Bd.method).1
  have X0 : Stand p l e room_1 s m #[(.int i0), (.int i1), (.int i2), (.int i3), (.int i4)] below meth c s₁ [] 0 0 := Stand.of_body Bd
  have e0 : s₁.heap = h0 := by rw [← hh, Bd.state]; rfl
  have N0 := Fr.nil n0
  show own_GoesW p e below s (Q0 Z i0 i1 i2 i3 i4 cz h0 n0) room_1.cells room_1.slots s₁ (entryFrame m #[(.int i0), (.int i1), (.int i2), (.int i3), (.int i4)] maxLocals)
  rw [ef_0 m i0 i1 i2 i3 i4]
  refine own_stepW (f' := (mkF m 1 #[.val (.int i0), .val (.int i1), .val (.int i2), .val (.int i3), .val (.int i4), .unset, .unset, .unset, .unset, .unset, .unset, .unset, .unset, .unset, .unset, .unset, .unset, .unset, .unset] [(.int i0)])) (fun _ k => XS.iloadN X0.here hx rfl (hb hby at_0) rfl k) ?_
  refine own_stepW (f' := (mkF m 2 #[.val (.int i0), .val (.int i1), .val (.int i2), .val (.int i3), .val (.int i4), .unset, .unset, .unset, .unset, .unset, .unset, .unset, .unset, .unset, .unset, .unset, .unset, .unset, .unset] [(.int (1 : Int32)), (.int i0)])) (fun _ k => XS.iconst X0.here hx rfl (hb hby at_1) k) ?_
  refine own_stepW (f' := (mkF m 3 #[.val (.int i0), .val (.int i1), .val (.int i2), .val (.int i3), .val (.int i4), .unset, .unset, .unset, .unset, .unset, .unset, .unset, .unset, .unset, .unset, .unset, .unset, .unset, .unset] [(.int (i0 &&& (1 : Int32)))])) (fun _ k => XS.iand X0.here hx rfl (hb hby at_2) rfl k) ?_
  have J3_2 := own_J3_2 l Z a0 hw h0 n0 p e s m below meth c hx hby hlk hml hown0 hZ0 Bd.returns i0 i1 i2 i3 i4 cz S_COMPACT_STRINGS hcz N0 Z0
  by_cases hc3_1 : (i0 &&& (1 : Int32)) = (0 : Int32)
  · refine own_stepW (f' := (mkF m 10 #[.val (.int i0), .val (.int i1), .val (.int i2), .val (.int i3), .val (.int i4), .unset, .unset, .unset, .unset, .unset, .unset, .unset, .unset, .unset, .unset, .unset, .unset, .unset, .unset] [])) (fun _ k => XS.ifYes X0.here hx rfl (pc0 := 3) (pc' := 10) rfl (hb hby at_3) rfl ((if0 _ _).trans (teq hc3_1).1) (by decide) (by decide) k) ?_
    refine own_stepW (f' := (mkF m 11 #[.val (.int i0), .val (.int i1), .val (.int i2), .val (.int i3), .val (.int i4), .unset, .unset, .unset, .unset, .unset, .unset, .unset, .unset, .unset, .unset, .unset, .unset, .unset, .unset] [(.int (0 : Int32))])) (fun _ k => XS.iconst X0.here hx rfl (hb hby at_10) k) ?_
    exact J3_2 _ (0 : Int32) X0 e0 (by rw [if_pos hc3_1])
  · refine own_stepW (f' := (mkF m 6 #[.val (.int i0), .val (.int i1), .val (.int i2), .val (.int i3), .val (.int i4), .unset, .unset, .unset, .unset, .unset, .unset, .unset, .unset, .unset, .unset, .unset, .unset, .unset, .unset] [])) (fun _ k => XS.ifNo X0.here hx rfl (hb hby at_3) rfl ((if0 _ _).trans (feq hc3_1).1) k) ?_
    refine own_stepW (f' := (mkF m 7 #[.val (.int i0), .val (.int i1), .val (.int i2), .val (.int i3), .val (.int i4), .unset, .unset, .unset, .unset, .unset, .unset, .unset, .unset, .unset, .unset, .unset, .unset, .unset, .unset] [(.int (1 : Int32))])) (fun _ k => XS.iconst X0.here hx rfl (hb hby at_6) k) ?_
    refine own_stepW (f' := (mkF m 11 #[.val (.int i0), .val (.int i1), .val (.int i2), .val (.int i3), .val (.int i4), .unset, .unset, .unset, .unset, .unset, .unset, .unset, .unset, .unset, .unset, .unset, .unset, .unset, .unset] [(.int (1 : Int32))])) (fun _ k => XS.goto X0.here hx rfl (pc0 := 7) (pc' := 11) rfl (hb hby at_7) (by decide) (by decide) k) ?_
    exact J3_2 _ (1 : Int32) X0 e0 (by rw [if_neg hc3_1])
set_option maxRecDepth 65536 in
set_option maxHeartbeats 40000000 in
theorem comes_1 {Post : Tables → Env → Array Value → State → Outcome → State → Prop} (hpost : ∀ tb e args s v u, (limb_1_1.after args s (.returned v) u = true ∧ limb_1_2.after args s (.returned v) u = true ∧ True) → ReturnedEndW s (.returned v) u (Jvm.fieldLocs frame_1_writes args s ++ Jvm.arrayLocs frame_1_arrays args s ++ Jvm.staticLocs frame_1_statics s) 72 2560 → Post tb e args s (.returned v) u) :
    ArmFor flags0 classFile x code maxLocals ret World_1 tables_1 room_1 Calls_1 rest_1 Pre_1 Post := by
  intro l hfl _ _ p e ha hc hk s m args below hf hA hF happ hP
  obtain ⟨hcalls, hrest, hpre⟩ := hP
  obtain ⟨-, -, -, hnamed, -, -, -, hat⟩ := (Spec.applies_iff hf).mp happ
  obtain ⟨hg, hn⟩ := and_e (Cond.before_iff.mp (show (Jvm.Cond.and given_1 narrow_1).before args s = true from hpre))
  obtain ⟨gq1, gq2⟩ := and_e hg
  obtain ⟨gq3, gq4⟩ := and_e gq2
  obtain ⟨gq5, gq6⟩ := and_e gq4
  obtain ⟨gq7, gq8⟩ := and_e gq6
  obtain ⟨gq9, gq10⟩ := and_e gq8
  obtain ⟨w0, w1, w2, w3, w4, rfl⟩ : ∃ w0 w1 w2 w3 w4 : Value, args = #[w0, w1, w2, w3, w4] := by
    have hs : args.size = 5 := by simpa [Cond.value, given_1] using gq1
    obtain ⟨L⟩ := args
    match L, hs with
    | [w0, w1, w2, w3, w4], _ => exact ⟨w0, w1, w2, w3, w4, rfl⟩
  have hw := fun d (hd : d ∈ tables_1) => atoms_spec (ws := Jvm.Cond.code x code maxLocals ret :: tables_1) hat d (List.mem_cons_of_mem _ hd)
  have hfit : Fit s := fun {y c} hc i hi => by
    obtain ⟨ha, rfl⟩ := Array.getElem?_eq_some_iff.mp hc
    have q := List.all_eq_true.mp ((Array.all_eq_true_iff_forall_mem.mp hF) _ (Array.getElem_mem ha)) i (List.mem_range.mpr hi)
    simpa [Array.getElem?_eq_getElem hi] using q
  obtain ⟨hsets, hown0⟩ := atoms_of _ (rest_1_c_eq ▸ (show rest_1_c.before _ s = true from hrest))
  have hr0 := Cond.before_iff.mp hown0
  obtain ⟨i0, ei0⟩ := is_v gq3
  obtain rfl : w0 = (.int i0) := Option.some.inj ei0
  obtain ⟨i1, ei1⟩ := is_v gq5
  obtain rfl : w1 = (.int i1) := Option.some.inj ei1
  obtain ⟨i2, ei2⟩ := is_v gq7
  obtain rfl : w2 = (.int i2) := Option.some.inj ei2
  obtain ⟨i3, ei3⟩ := is_v gq9
  obtain rfl : w3 = (.int i3) := Option.some.inj ei3
  obtain ⟨i4, ei4⟩ := is_v gq10
  obtain rfl : w4 = (.int i4) := Option.some.inj ei4
  have q1 := Cond.before_iff.mp (hsets _ (List.mem_of_getElem? (i := 1) rfl))
  obtain ⟨cz, hcz0⟩ := is_v q1
  have S1 : Sta s s.heap "java/lang/String" "COMPACT_STRINGS" "Z" (.int cz) := Sta.start hcz0 (Or.inl (hsets _ (List.mem_of_getElem? (i := 0) rfl)))
  have q2 := Cond.before_iff.mp (hsets _ (List.mem_of_getElem? (i := 2) rfl))
  have hcz : ¬ cz = (0 : Int32) := fun q => by have r := not_v q2; rw [Cond.eq_ints hcz0 rfl] at r; simp [q] at r
  obtain ⟨n, o, h1, h2, h3, _, L, rfl, ⟨rfl, N⟩, hq⟩ := rm0 l s _ hw tables_1 i0 i1 i2 i3 i4 cz s.heap s.heap.size (Nat.le_refl _) S1 hcz p e ha hc hk s m _ below hf ((Spec.applies_iff_loose hf).mp happ).1 ⟨rfl, rfl, rfl⟩ trivial
  refine ⟨n, _, h1, h2, h3, hpost _ _ _ _ _ _ ⟨Cond.after_iff.mpr rfl, Cond.after_iff.mpr (eq_i res_at (Term.int_eval (1)) rfl), trivial⟩ ⟨hq.1, hq.2.1, hq.2.2.1, (hq.2.2.2.sift fun y hy => Or.inr (N y hy)).mono (by decide) (by decide)⟩⟩
theorem main_1_1 : Claimed_1_1 := comes_1 fun _ _ _ _ _ _ h hF => ⟨h.1, hF⟩
theorem main_1_2 : Claimed_1_2 := comes_1 fun _ _ _ _ _ _ h hF => ⟨h.2.1, hF⟩
end Jvm.Pilot.@@N@@
namespace Jvm.Pilot.@@N@@
open Jvm Jvm.ClassFile Sem Op Lib Jvm.Free Jvm.Stand Jvm.Pilot.@@N@@.Jvm.D
/-! MADE BY PROGRAM (witnessworld.py) out of the Statement's table words and the real class files: 30 classes; the members and pool entries that the words name. The judged class is class 1, her method 1. -/
namespace start1
open Jvm.ClassFile
def u (s : String) : CpInfo := .utf8 (stringToUtf16 s)
/-- a pool by its gaps: so many unusable entries, then the entry; so many at the end -/
def gap : Nat → List CpInfo → List CpInfo
  | 0, r => r
  | n + 1, r => .unusable :: gap n r
def poolList (es : List (Nat × CpInfo)) (last : Nat) : List CpInfo := es.foldr (fun e r => gap e.1 (e.2 :: r)) (gap last [])
def pool (es : List (Nat × CpInfo)) (last : Nat) : Array CpInfo := ⟨poolList es last⟩
def fileOf (pool : Array CpInfo) (this : Nat) (attrs : Array Attribute := #[]) (ms : Array MethodInfo := #[]) (fl : Nat := 33) (sup : Nat := 0) (ifs : Array Nat := #[]) (fds : Array FieldInfo := #[]) : ClassFile where
  minorVersion := 0
  majorVersion := 65
  constantPool := pool
  accessFlags := fl
  thisClass := this
  superClass := sup
  interfaces := ifs
  fields := fds
  methods := ms
  attributes := attrs
def plain (name : String) (sup : Option ClassId) : Class where
  name := name
  kind := .ordinary
  loader := none
  accessFlags := 33
  super := sup
  interfaces := #[]
  cf := none
  fields := #[]
  methods := #[]
  instanceTypes := #[]
  staticTypes := #[]
  resolved := #[]
  callSites := []
  init := .initialized
  statics := none
  mirror := none

def pool0 : Array CpInfo := pool [(5, u "<init>"), (0, u "()V"), (1, .class_ 10), (1, u "java/lang/Object")] 113

def k0c0 : Code := { maxStack := 0, maxLocals := 1, code := object_method_1_code, exceptionTable := #[], attributes := #[] }
def k0m0 : Method := { name := "<init>", desc := "()V", sig := { parameters := [], returnType := none }, accessFlags := 1, code := some k0c0 }
/-- java/lang/Object -/
def k0 : Class := { plain "java/lang/Object" none with
  accessFlags := 33
  interfaces := #[]
  cf := some (fileOf pool0 8 #[] #[{ accessFlags := 1, nameIndex := 5, descriptorIndex := 6, attributes := #[] }] 33 0 #[] #[])
  fields := #[]
  methods := #[k0m0]
  instanceTypes := #[]
  staticTypes := #[]
  resolved := Array.replicate 124 none
  statics := none }

def pool1 : Array CpInfo := pool [(2, .class_ 4), (0, .nameAndType 5 6), (0, u "java/lang/Object"), (0, u "<init>"), (0, u "()V"), (0, .class_ 8), (0, u "com/example/valbonne/valbonne/codec/Name"), (0, .methodref 10 11), (0, .class_ 12), (0, .nameAndType 13 14), (0, u "java/lang/String"), (0, u "valueOf"), (0, u "(C)Ljava/lang/String;"), (0, .methodref 7 16), (0, .nameAndType 5 17), (0, u "(ILjava/lang/String;)V"), (0, .integer 16777216), (0, .methodref 10 20), (0, .nameAndType 5 21), (0, u "([C)V"), (0, .integer 33554432), (0, .integer 67108864), (0, .class_ 25), (0, u "com/example/valbonne/valbonne/codec/AttributeCodings"), (0, .methodref 24 3), (0, .class_ 28), (0, u "com/example/valbonne/valbonne/codec/StreamInput"), (0, .methodref 27 30), (0, .nameAndType 5 31), (0, u "([B)V"), (0, .methodref 24 33), (0, .nameAndType 34 35), (0, u "begin"), (0, u "(Lcom/example/valbonne/valbonne/codec/StreamInput;Lcom/example/valbonne/valbonne/codec/DeclaredAttributes;Z)V"), (0, .methodref 24 37), (0, .nameAndType 38 39), (0, u "add"), (0, u "(Lcom/example/valbonne/valbonne/codec/Name;Ljava/lang/String;)V"), (0, .methodref 41 42), (0, .class_ 43), (0, .nameAndType 44 45), (0, u "com/example/valbonne/valbonne/codec/AttributeCodingsAddPinLaw"), (0, u "addFour"), (0, u "(Lcom/example/valbonne/valbonne/codec/AttributeCodings;Lcom/example/valbonne/valbonne/codec/Name;Ljava/lang/String;)V"), (0, .methodref 24 47), (0, .nameAndType 48 49), (0, u "end"), (0, u "(Lcom/example/valbonne/valbonne/codec/StreamInput;)V"), (0, .methodref 24 51), (0, .nameAndType 52 53), (0, u "readKnown"), (0, u "(Lcom/example/valbonne/valbonne/codec/StreamInput;Lcom/example/valbonne/valbonne/codec/DeclaredAttributes;Z)Lcom/example/valbonne/valbonne/codec/AttributeCodings$Coding;"), (0, .methodref 55 56), (0, .class_ 57), (0, .nameAndType 58 59), (0, u "com/example/valbonne/valbonne/codec/AttributeCodings$Coding"), (0, u "size"), (0, u "()I"), (0, .methodref 41 61), (0, .nameAndType 62 63), (0, u "at"), (0, u "(Lcom/example/valbonne/valbonne/codec/AttributeCodings$Coding;ILcom/example/valbonne/valbonne/codec/Name;Ljava/lang/String;)Z"), (0, .methodref 55 65), (0, .nameAndType 66 67), (0, u "name"), (0, u "(I)Lcom/example/valbonne/valbonne/codec/Name;"), (0, .methodref 55 69), (0, .nameAndType 70 71), (0, u "value"), (0, u "(I)Ljava/lang/String;"), (2, u "law"), (0, u "(IIIII)Z")] 5

def k1m0 : Method := { name := "<init>", desc := "()V", sig := { parameters := [], returnType := none }, accessFlags := 1, code := none }
def k1c1 : Code := { maxStack := 7, maxLocals := 19, code := code, exceptionTable := #[], attributes := #[] }
def k1m1 : Method := { name := "law", desc := "(IIIII)Z", sig := { parameters := [.int, .int, .int, .int, .int], returnType := some .boolean }, accessFlags := 9, code := some k1c1 }
def k1c2 : Code := { maxStack := 3, maxLocals := 3, code := method_3_code, exceptionTable := #[], attributes := #[] }
def k1m2 : Method := { name := "addFour", desc := "(Lcom/example/valbonne/valbonne/codec/AttributeCodings;Lcom/example/valbonne/valbonne/codec/Name;Ljava/lang/String;)V", sig := { parameters := [(.object "com/example/valbonne/valbonne/codec/AttributeCodings"), (.object "com/example/valbonne/valbonne/codec/Name"), (.object "java/lang/String")], returnType := none }, accessFlags := 10, code := some k1c2 }
def k1c3 : Code := { maxStack := 2, maxLocals := 4, code := method_4_code, exceptionTable := #[], attributes := #[] }
def k1m3 : Method := { name := "at", desc := "(Lcom/example/valbonne/valbonne/codec/AttributeCodings$Coding;ILcom/example/valbonne/valbonne/codec/Name;Ljava/lang/String;)Z", sig := { parameters := [(.object "com/example/valbonne/valbonne/codec/AttributeCodings$Coding"), .int, (.object "com/example/valbonne/valbonne/codec/Name"), (.object "java/lang/String")], returnType := some .boolean }, accessFlags := 10, code := some k1c3 }
/-- com/example/valbonne/valbonne/codec/AttributeCodingsAddPinLaw -/
def k1 : Class := { plain "com/example/valbonne/valbonne/codec/AttributeCodingsAddPinLaw" (some 0) with
  accessFlags := 49
  interfaces := #[]
  cf := some (fileOf pool1 41 #[] #[{ accessFlags := 1, nameIndex := 5, descriptorIndex := 6, attributes := #[] }, { accessFlags := 9, nameIndex := 74, descriptorIndex := 75, attributes := #[] }, { accessFlags := 10, nameIndex := 44, descriptorIndex := 45, attributes := #[] }, { accessFlags := 10, nameIndex := 62, descriptorIndex := 63, attributes := #[] }] 49 2 #[] #[])
  fields := #[]
  methods := #[k1m0, k1m1, k1m2, k1m3]
  instanceTypes := #[]
  staticTypes := #[]
  resolved := Array.replicate 81 none
  statics := none }

def pool2 : Array CpInfo := pool [(1, .methodref 2 3), (0, .class_ 4), (0, .nameAndType 5 6), (0, u "java/lang/Object"), (0, u "<init>"), (0, u "()V"), (0, .fieldref 8 9), (0, .class_ 10), (0, .nameAndType 11 12), (0, u "com/example/valbonne/valbonne/codec/Name"), (0, u "token"), (0, u "I"), (0, .fieldref 8 14), (0, .nameAndType 15 16), (0, u "name"), (0, u "Ljava/lang/String;"), (19, u "(ILjava/lang/String;)V"), (49, u "NO_TOKEN")] 13

def k2c0 : Code := { maxStack := 2, maxLocals := 3, code := prog_63_method_1_code, exceptionTable := #[], attributes := #[] }
def k2m0 : Method := { name := "<init>", desc := "(ILjava/lang/String;)V", sig := { parameters := [.int, (.object "java/lang/String")], returnType := none }, accessFlags := 0, code := some k2c0 }
/-- com/example/valbonne/valbonne/codec/Name -/
def k2 : Class := { plain "com/example/valbonne/valbonne/codec/Name" (some 0) with
  accessFlags := 33
  interfaces := #[]
  cf := some (fileOf pool2 8 #[] #[{ accessFlags := 0, nameIndex := 5, descriptorIndex := 36, attributes := #[] }] 33 2 #[] #[{ accessFlags := 25, nameIndex := 86, descriptorIndex := 12, attributes := #[] }, { accessFlags := 18, nameIndex := 11, descriptorIndex := 12, attributes := #[] }, { accessFlags := 18, nameIndex := 15, descriptorIndex := 16, attributes := #[] }])
  fields := #[{ name := "NO_TOKEN", type := .int, accessFlags := 25, slot := 0, constantValue := 0 }, { name := "token", type := .int, accessFlags := 18, slot := 0, constantValue := 0 }, { name := "name", type := (.object "java/lang/String"), accessFlags := 18, slot := 1, constantValue := 0 }]
  methods := #[k2m0]
  instanceTypes := #[.int, (.object "java/lang/String")]
  staticTypes := #[.int]
  resolved := Array.replicate 100 none
  statics := none }

def pool3 : Array CpInfo := pool [(1, .class_ 2), (0, u "java/io/Serializable"), (0, .class_ 4), (0, u "java/lang/Object")] 2

/-- java/io/Serializable -/
def k3 : Class := { plain "java/io/Serializable" (some 0) with
  accessFlags := 1537
  interfaces := #[]
  cf := some (fileOf pool3 1 #[] #[] 1537 3 #[] #[])
  fields := #[]
  methods := #[]
  instanceTypes := #[]
  staticTypes := #[]
  resolved := Array.replicate 7 none
  statics := none }

def pool4 : Array CpInfo := pool [(1, .class_ 2), (0, u "java/lang/Comparable"), (0, .class_ 4), (0, u "java/lang/Object")] 7

/-- java/lang/Comparable -/
def k4 : Class := { plain "java/lang/Comparable" (some 0) with
  accessFlags := 1537
  interfaces := #[]
  cf := some (fileOf pool4 1 #[] #[] 1537 3 #[] #[])
  fields := #[]
  methods := #[]
  instanceTypes := #[]
  staticTypes := #[]
  resolved := Array.replicate 12 none
  statics := none }

def pool5 : Array CpInfo := pool [(2, .class_ 4), (1, u "java/lang/CharSequence"), (42, .class_ 48), (0, u "java/lang/CharSequence$1CodePointIterator"), (10, .class_ 60), (0, u "java/lang/CharSequence$1CharIterator"), (5, .class_ 67), (0, u "java/lang/Object")] 63

/-- java/lang/CharSequence -/
def k5 : Class := { plain "java/lang/CharSequence" (some 0) with
  accessFlags := 1537
  interfaces := #[]
  cf := some (fileOf pool5 2 #[.nestMembers #[47, 59]] #[] 1537 66 #[] #[])
  fields := #[]
  methods := #[]
  instanceTypes := #[]
  staticTypes := #[]
  resolved := Array.replicate 131 none
  statics := none }

def pool6 : Array CpInfo := pool [(1, .class_ 2), (0, u "java/lang/constant/Constable"), (0, .class_ 4), (0, u "java/lang/Object")] 6

/-- java/lang/constant/Constable -/
def k6 : Class := { plain "java/lang/constant/Constable" (some 0) with
  accessFlags := 1537
  interfaces := #[]
  cf := some (fileOf pool6 1 #[] #[] 1537 3 #[] #[])
  fields := #[]
  methods := #[]
  instanceTypes := #[]
  staticTypes := #[]
  resolved := Array.replicate 11 none
  statics := none }

def pool7 : Array CpInfo := pool [(1, .class_ 2), (0, u "java/lang/constant/ConstantDesc"), (0, .class_ 4), (0, u "java/lang/Object")] 32

/-- java/lang/constant/ConstantDesc -/
def k7 : Class := { plain "java/lang/constant/ConstantDesc" (some 0) with
  accessFlags := 1537
  interfaces := #[]
  cf := some (fileOf pool7 1 #[] #[] 1537 3 #[] #[])
  fields := #[]
  methods := #[]
  instanceTypes := #[]
  staticTypes := #[]
  resolved := Array.replicate 37 none
  statics := none }

def pool8 : Array CpInfo := pool [(1, .methodref 2 3), (0, .class_ 4), (0, .nameAndType 5 6), (0, u "java/lang/Object"), (0, u "<init>"), (0, u "()V"), (2, .fieldref 10 11), (0, .class_ 12), (0, .nameAndType 13 14), (0, u "java/lang/String"), (0, u "value"), (0, u "[B"), (0, .fieldref 10 16), (0, .nameAndType 17 18), (0, u "coder"), (0, u "B"), (2, u "hash"), (0, u "I"), (2, u "hashIsZero"), (0, u "Z"), (0, .methodref 10 28), (0, .nameAndType 5 29), (0, u "([CIILjava/lang/Void;)V"), (8, .fieldref 10 39), (0, .nameAndType 40 26), (0, u "COMPACT_STRINGS"), (1, .class_ 44), (1, u "java/lang/StringUTF16"), (0, u "compress"), (1, .methodref 42 48), (0, .nameAndType 49 50), (0, u "coderFromArrayLen"), (0, u "([BI)B"), (2, u "toBytes"), (53, .class_ 109), (1, u "java/lang/StringLatin1"), (67, .methodref 42 178), (0, .nameAndType 45 179), (0, u "([CII)[B"), (29, .methodref 10 210), (0, .nameAndType 5 211), (0, u "([BB)V"), (157, u "(C)Z"), (205, .class_ 576), (0, u "java/lang/CharSequence"), (22, u "CASE_INSENSITIVE_ORDER"), (0, u "Ljava/util/Comparator;"), (181, u "valueOf"), (0, u "(C)Ljava/lang/String;"), (226, u "([C)V"), (4, .methodref 107 1016), (0, .nameAndType 1017 369), (0, u "canEncode"), (0, .methodref 107 1019), (0, .nameAndType 53 1020), (0, u "(C)[B"), (80, u "serialPersistentFields"), (0, u "[Ljava/io/ObjectStreamField;"), (0, .class_ 1104), (0, u "java/lang/String$CaseInsensitiveComparator"), (1, .class_ 1107), (0, u "java/io/Serializable"), (0, .class_ 1109), (0, u "java/lang/Comparable"), (0, .class_ 1111), (0, u "java/lang/constant/Constable"), (0, .class_ 1113), (0, u "java/lang/constant/ConstantDesc"), (2, u "serialVersionUID"), (0, u "J"), (3, u "REPL"), (0, u "C"), (2, u "LATIN1"), (1, u "UTF16")] 323

def k8m0 : Method := { name := "<init>", desc := "()V", sig := { parameters := [], returnType := none }, accessFlags := 1, code := none }
def k8c1 : Code := { maxStack := 5, maxLocals := 2, code := jdk_42_method_3_code, exceptionTable := #[], attributes := #[] }
def k8m1 : Method := { name := "<init>", desc := "([C)V", sig := { parameters := [(.array .char)], returnType := none }, accessFlags := 1, code := some k8c1 }
def k8c2 : Code := { maxStack := 4, maxLocals := 1, code := jdk_42_method_139_code, exceptionTable := #[], attributes := #[] }
def k8m2 : Method := { name := "valueOf", desc := "(C)Ljava/lang/String;", sig := { parameters := [.char], returnType := some (.object "java/lang/String") }, accessFlags := 9, code := some k8c2 }
def k8c3 : Code := { maxStack := 4, maxLocals := 6, code := jdk_42_method_149_code, exceptionTable := #[], attributes := #[] }
def k8m3 : Method := { name := "<init>", desc := "([CIILjava/lang/Void;)V", sig := { parameters := [(.array .char), .int, .int, (.object "java/lang/Void")], returnType := none }, accessFlags := 2, code := some k8c3 }
def k8c4 : Code := { maxStack := 2, maxLocals := 3, code := jdk_42_method_151_code, exceptionTable := #[], attributes := #[] }
def k8m4 : Method := { name := "<init>", desc := "([BB)V", sig := { parameters := [(.array .byte), .byte], returnType := none }, accessFlags := 0, code := some k8c4 }
/-- java/lang/String -/
def k8 : Class := { plain "java/lang/String" (some 0) with
  accessFlags := 49
  interfaces := #[3, 4, 5, 6, 7]
  cf := some (fileOf pool8 10 #[.nestMembers #[1103]] #[{ accessFlags := 1, nameIndex := 5, descriptorIndex := 6, attributes := #[] }, { accessFlags := 1, nameIndex := 5, descriptorIndex := 1010, attributes := #[] }, { accessFlags := 9, nameIndex := 782, descriptorIndex := 783, attributes := #[] }, { accessFlags := 2, nameIndex := 5, descriptorIndex := 29, attributes := #[] }, { accessFlags := 0, nameIndex := 5, descriptorIndex := 211, attributes := #[] }] 49 2 #[1106, 1108, 575, 1110, 1112] #[{ accessFlags := 18, nameIndex := 13, descriptorIndex := 14, attributes := #[] }, { accessFlags := 18, nameIndex := 17, descriptorIndex := 18, attributes := #[] }, { accessFlags := 2, nameIndex := 21, descriptorIndex := 22, attributes := #[] }, { accessFlags := 2, nameIndex := 25, descriptorIndex := 26, attributes := #[] }, { accessFlags := 26, nameIndex := 1116, descriptorIndex := 1117, attributes := #[] }, { accessFlags := 24, nameIndex := 40, descriptorIndex := 26, attributes := #[] }, { accessFlags := 26, nameIndex := 1101, descriptorIndex := 1102, attributes := #[] }, { accessFlags := 26, nameIndex := 1121, descriptorIndex := 1122, attributes := #[] }, { accessFlags := 25, nameIndex := 599, descriptorIndex := 600, attributes := #[] }, { accessFlags := 24, nameIndex := 1125, descriptorIndex := 18, attributes := #[] }, { accessFlags := 24, nameIndex := 1127, descriptorIndex := 18, attributes := #[] }])
  fields := #[{ name := "value", type := (.array .byte), accessFlags := 18, slot := 0, constantValue := 0 }, { name := "coder", type := .byte, accessFlags := 18, slot := 1, constantValue := 0 }, { name := "hash", type := .int, accessFlags := 2, slot := 2, constantValue := 0 }, { name := "hashIsZero", type := .boolean, accessFlags := 2, slot := 3, constantValue := 0 }, { name := "serialVersionUID", type := .long, accessFlags := 26, slot := 0, constantValue := 0 }, { name := "COMPACT_STRINGS", type := .boolean, accessFlags := 24, slot := 1, constantValue := 0 }, { name := "serialPersistentFields", type := (.array (.object "java/io/ObjectStreamField")), accessFlags := 26, slot := 2, constantValue := 0 }, { name := "REPL", type := .char, accessFlags := 26, slot := 3, constantValue := 0 }, { name := "CASE_INSENSITIVE_ORDER", type := (.object "java/util/Comparator"), accessFlags := 25, slot := 4, constantValue := 0 }, { name := "LATIN1", type := .byte, accessFlags := 24, slot := 5, constantValue := 0 }, { name := "UTF16", type := .byte, accessFlags := 24, slot := 6, constantValue := 0 }]
  methods := #[k8m0, k8m1, k8m2, k8m3, k8m4]
  instanceTypes := #[(.array .byte), .byte, .int, .boolean]
  staticTypes := #[.long, .boolean, (.array (.object "java/io/ObjectStreamField")), .char, (.object "java/util/Comparator"), .byte, .byte]
  resolved := Array.replicate 1451 none
  statics := some 0 }

def pool9 : Array CpInfo := pool [(4, .class_ 6), (1, u "java/lang/Object"), (0, u "<init>"), (0, u "()V"), (5, .class_ 16), (1, u "java/lang/StringLatin1"), (73, u "canEncode"), (14, u "(C)Z"), (15, u "$assertionsDisabled"), (0, u "Z"), (98, .class_ 223), (1, u "java/lang/StringLatin1$LinesSpliterator"), (156, u "toBytes"), (1, u "(C)[B"), (7, .class_ 391), (0, u "java/lang/StringLatin1$CharsSpliterator")] 3

def k9m0 : Method := { name := "<init>", desc := "()V", sig := { parameters := [], returnType := none }, accessFlags := 0, code := none }
def k9c1 : Code := { maxStack := 2, maxLocals := 1, code := jdk_43_method_3_code, exceptionTable := #[], attributes := #[] }
def k9m1 : Method := { name := "canEncode", desc := "(C)Z", sig := { parameters := [.char], returnType := some .boolean }, accessFlags := 9, code := some k9c1 }
def k9c2 : Code := { maxStack := 4, maxLocals := 1, code := jdk_43_method_46_code, exceptionTable := #[], attributes := #[] }
def k9m2 : Method := { name := "toBytes", desc := "(C)[B", sig := { parameters := [.char], returnType := some (.array .byte) }, accessFlags := 9, code := some k9c2 }
/-- java/lang/StringLatin1 -/
def k9 : Class := { plain "java/lang/StringLatin1" (some 0) with
  accessFlags := 48
  interfaces := #[]
  cf := some (fileOf pool9 14 #[.nestMembers #[390, 221]] #[{ accessFlags := 0, nameIndex := 7, descriptorIndex := 8, attributes := #[] }, { accessFlags := 9, nameIndex := 90, descriptorIndex := 105, attributes := #[] }, { accessFlags := 9, nameIndex := 380, descriptorIndex := 382, attributes := #[] }] 48 4 #[] #[{ accessFlags := 4120, nameIndex := 121, descriptorIndex := 122, attributes := #[] }])
  fields := #[{ name := "$assertionsDisabled", type := .boolean, accessFlags := 4120, slot := 0, constantValue := 0 }]
  methods := #[k9m0, k9m1, k9m2]
  instanceTypes := #[]
  staticTypes := #[.boolean]
  resolved := Array.replicate 395 none
  statics := none }

def pool10 : Array CpInfo := pool [(6, .class_ 8), (1, u "java/lang/Object"), (0, u "<init>"), (0, u "()V"), (1, .class_ 14), (1, u "java/lang/StringUTF16"), (31, u "$assertionsDisabled"), (0, u "Z"), (13, u "HI_BYTE_SHIFT"), (0, u "I"), (2, u "LO_BYTE_SHIFT"), (49, .methodref 12 116), (0, .nameAndType 117 118), (0, u "compress"), (0, u "([CI[BII)I"), (3, u "([CII)[B"), (138, u "coderFromArrayLen"), (0, u "([BI)B"), (106, .class_ 371), (1, u "java/lang/StringUTF16$LinesSpliterator"), (58, u "MAX_LENGTH"), (196, .class_ 628), (0, u "java/lang/StringUTF16$CodePointsSpliterator"), (0, .class_ 630), (0, u "java/lang/StringUTF16$CharsSpliterator")] 4

def k10m0 : Method := { name := "<init>", desc := "()V", sig := { parameters := [], returnType := none }, accessFlags := 0, code := none }
def k10c1 : Code := { maxStack := 2, maxLocals := 2, code := jdk_52_method_15_code, exceptionTable := #[], attributes := #[] }
def k10m1 : Method := { name := "coderFromArrayLen", desc := "([BI)B", sig := { parameters := [(.array .byte), .int], returnType := some .byte }, accessFlags := 8, code := some k10c1 }
def k10c2 : Code := { maxStack := 5, maxLocals := 6, code := jdk_52_method_16_code, exceptionTable := #[], attributes := #[] }
def k10m2 : Method := { name := "compress", desc := "([CII)[B", sig := { parameters := [(.array .char), .int, .int], returnType := some (.array .byte) }, accessFlags := 9, code := some k10c2 }
def k10c3 : Code := { maxStack := 3, maxLocals := 7, code := jdk_52_method_21_code, exceptionTable := #[], attributes := #[] }
def k10m3 : Method := { name := "compress", desc := "([CI[BII)I", sig := { parameters := [(.array .char), .int, (.array .byte), .int, .int], returnType := some .int }, accessFlags := 9, code := some k10c3 }
/-- java/lang/StringUTF16 -/
def k10 : Class := { plain "java/lang/StringUTF16" (some 0) with
  accessFlags := 48
  interfaces := #[]
  cf := some (fileOf pool10 12 #[.nestMembers #[627, 629, 369]] #[{ accessFlags := 0, nameIndex := 9, descriptorIndex := 10, attributes := #[] }, { accessFlags := 8, nameIndex := 261, descriptorIndex := 262, attributes := #[] }, { accessFlags := 9, nameIndex := 117, descriptorIndex := 122, attributes := #[] }, { accessFlags := 9, nameIndex := 117, descriptorIndex := 118, attributes := #[] }] 48 6 #[] #[{ accessFlags := 26, nameIndex := 61, descriptorIndex := 62, attributes := #[] }, { accessFlags := 26, nameIndex := 65, descriptorIndex := 62, attributes := #[] }, { accessFlags := 24, nameIndex := 430, descriptorIndex := 62, attributes := #[] }, { accessFlags := 4120, nameIndex := 46, descriptorIndex := 47, attributes := #[] }])
  fields := #[{ name := "HI_BYTE_SHIFT", type := .int, accessFlags := 26, slot := 0, constantValue := 0 }, { name := "LO_BYTE_SHIFT", type := .int, accessFlags := 26, slot := 1, constantValue := 0 }, { name := "MAX_LENGTH", type := .int, accessFlags := 24, slot := 2, constantValue := 0 }, { name := "$assertionsDisabled", type := .boolean, accessFlags := 4120, slot := 3, constantValue := 0 }]
  methods := #[k10m0, k10m1, k10m2, k10m3]
  instanceTypes := #[]
  staticTypes := #[.int, .int, .int, .boolean]
  resolved := Array.replicate 635 none
  statics := none }

def pool11 : Array CpInfo := pool [(1, .methodref 2 3), (0, .class_ 4), (0, .nameAndType 5 6), (0, u "java/lang/Object"), (0, u "<init>"), (0, u "()V"), (0, .class_ 8), (0, u "com/example/valbonne/valbonne/codec/AttributeCodings"), (0, .class_ 10), (0, u "com/example/valbonne/valbonne/codec/AttributeCodings$Coding"), (0, .fieldref 7 12), (0, .nameAndType 13 14), (0, u "kept"), (0, u "[Lcom/example/valbonne/valbonne/codec/AttributeCodings$Coding;"), (4, u "size"), (0, u "()I"), (2, u "NO_ATTRIBUTES"), (0, u "Lcom/example/valbonne/valbonne/codec/AttributeCodings$Coding;"), (0, .methodref 26 27), (0, .class_ 28), (0, .nameAndType 29 20), (0, u "com/example/valbonne/valbonne/codec/StreamInput"), (0, u "attributePage"), (0, .methodref 9 31), (0, .nameAndType 32 33), (0, u "codes"), (0, u "(Lcom/example/valbonne/valbonne/codec/StreamInput;Lcom/example/valbonne/valbonne/codec/DeclaredAttributes;ZI)Z"), (0, .fieldref 9 35), (0, .nameAndType 36 37), (0, u "length"), (0, u "I"), (0, .methodref 26 39), (0, .nameAndType 40 41), (0, u "skip"), (0, u "(I)V"), (0, .fieldref 9 43), (0, .nameAndType 44 37), (0, u "endPage"), (0, .methodref 26 46), (0, .nameAndType 47 41), (0, u "switchAttributePage"), (0, .fieldref 7 49), (0, .nameAndType 50 37), (0, u "oldest"), (0, .methodref 9 3), (0, .fieldref 7 53), (0, .nameAndType 54 24), (0, u "reading"), (0, .methodref 9 56), (0, .nameAndType 57 58), (0, u "clear"), (0, u "(Lcom/example/valbonne/valbonne/codec/DeclaredAttributes;ZI)V"), (0, .methodref 26 60), (0, .nameAndType 61 62), (0, u "position"), (0, u "()J"), (0, .fieldref 7 64), (0, .nameAndType 65 66), (0, u "readFrom"), (0, u "J"), (0, .fieldref 9 68), (0, .nameAndType 19 37), (0, .fieldref 9 70), (0, .nameAndType 71 72), (0, u "names"), (0, u "[Lcom/example/valbonne/valbonne/codec/Name;"), (0, .fieldref 9 74), (0, .nameAndType 75 76), (0, u "values"), (0, u "[Ljava/lang/String;"), (0, .long 64), (1, .fieldref 9 80), (0, .nameAndType 81 82), (0, u "bytes"), (0, u "[B"), (0, .methodref 26 84), (0, .nameAndType 85 86), (0, u "copyRead"), (0, u "(J[BI)V"), (0, .fieldref 9 88), (0, .nameAndType 89 90), (0, u "known"), (0, u "Z"), (0, u "KEPT"), (2, u "MAX_LENGTH"), (1, u "MAX_ATTRIBUTES"), (2, u "readKnown"), (0, u "(Lcom/example/valbonne/valbonne/codec/StreamInput;Lcom/example/valbonne/valbonne/codec/DeclaredAttributes;Z)Lcom/example/valbonne/valbonne/codec/AttributeCodings$Coding;"), (1, u "begin"), (0, u "(Lcom/example/valbonne/valbonne/codec/StreamInput;Lcom/example/valbonne/valbonne/codec/DeclaredAttributes;Z)V"), (0, u "add"), (0, u "(Lcom/example/valbonne/valbonne/codec/Name;Ljava/lang/String;)V"), (0, u "end"), (0, u "(Lcom/example/valbonne/valbonne/codec/StreamInput;)V")] 6

def k11c0 : Code := { maxStack := 2, maxLocals := 1, code := prog_11_method_1_code, exceptionTable := #[], attributes := #[] }
def k11m0 : Method := { name := "<init>", desc := "()V", sig := { parameters := [], returnType := none }, accessFlags := 0, code := some k11c0 }
def k11c1 : Code := { maxStack := 5, maxLocals := 7, code := prog_11_method_2_code, exceptionTable := #[], attributes := #[] }
def k11m1 : Method := { name := "readKnown", desc := "(Lcom/example/valbonne/valbonne/codec/StreamInput;Lcom/example/valbonne/valbonne/codec/DeclaredAttributes;Z)Lcom/example/valbonne/valbonne/codec/AttributeCodings$Coding;", sig := { parameters := [(.object "com/example/valbonne/valbonne/codec/StreamInput"), (.object "com/example/valbonne/valbonne/codec/DeclaredAttributes"), .boolean], returnType := some (.object "com/example/valbonne/valbonne/codec/AttributeCodings$Coding") }, accessFlags := 0, code := some k11c1 }
def k11c2 : Code := { maxStack := 4, maxLocals := 4, code := prog_11_method_3_code, exceptionTable := #[], attributes := #[] }
def k11m2 : Method := { name := "begin", desc := "(Lcom/example/valbonne/valbonne/codec/StreamInput;Lcom/example/valbonne/valbonne/codec/DeclaredAttributes;Z)V", sig := { parameters := [(.object "com/example/valbonne/valbonne/codec/StreamInput"), (.object "com/example/valbonne/valbonne/codec/DeclaredAttributes"), .boolean], returnType := none }, accessFlags := 0, code := some k11c2 }
def k11c3 : Code := { maxStack := 3, maxLocals := 3, code := prog_11_method_4_code, exceptionTable := #[], attributes := #[] }
def k11m3 : Method := { name := "add", desc := "(Lcom/example/valbonne/valbonne/codec/Name;Ljava/lang/String;)V", sig := { parameters := [(.object "com/example/valbonne/valbonne/codec/Name"), (.object "java/lang/String")], returnType := none }, accessFlags := 0, code := some k11c3 }
def k11c4 : Code := { maxStack := 5, maxLocals := 4, code := prog_11_method_5_code, exceptionTable := #[], attributes := #[] }
def k11m4 : Method := { name := "end", desc := "(Lcom/example/valbonne/valbonne/codec/StreamInput;)V", sig := { parameters := [(.object "com/example/valbonne/valbonne/codec/StreamInput")], returnType := none }, accessFlags := 0, code := some k11c4 }
/-- com/example/valbonne/valbonne/codec/AttributeCodings -/
def k11 : Class := { plain "com/example/valbonne/valbonne/codec/AttributeCodings" (some 0) with
  accessFlags := 32
  interfaces := #[]
  cf := some (fileOf pool11 7 #[.nestMembers #[9]] #[{ accessFlags := 0, nameIndex := 5, descriptorIndex := 6, attributes := #[] }, { accessFlags := 0, nameIndex := 99, descriptorIndex := 100, attributes := #[] }, { accessFlags := 0, nameIndex := 102, descriptorIndex := 103, attributes := #[] }, { accessFlags := 0, nameIndex := 104, descriptorIndex := 105, attributes := #[] }, { accessFlags := 0, nameIndex := 106, descriptorIndex := 107, attributes := #[] }] 32 2 #[] #[{ accessFlags := 24, nameIndex := 91, descriptorIndex := 37, attributes := #[] }, { accessFlags := 24, nameIndex := 94, descriptorIndex := 37, attributes := #[] }, { accessFlags := 24, nameIndex := 96, descriptorIndex := 37, attributes := #[] }, { accessFlags := 26, nameIndex := 23, descriptorIndex := 24, attributes := #[] }, { accessFlags := 18, nameIndex := 13, descriptorIndex := 14, attributes := #[] }, { accessFlags := 2, nameIndex := 50, descriptorIndex := 37, attributes := #[] }, { accessFlags := 2, nameIndex := 54, descriptorIndex := 24, attributes := #[] }, { accessFlags := 2, nameIndex := 65, descriptorIndex := 66, attributes := #[] }])
  fields := #[{ name := "KEPT", type := .int, accessFlags := 24, slot := 0, constantValue := 0 }, { name := "MAX_LENGTH", type := .int, accessFlags := 24, slot := 1, constantValue := 0 }, { name := "MAX_ATTRIBUTES", type := .int, accessFlags := 24, slot := 2, constantValue := 0 }, { name := "NO_ATTRIBUTES", type := (.object "com/example/valbonne/valbonne/codec/AttributeCodings$Coding"), accessFlags := 26, slot := 3, constantValue := 0 }, { name := "kept", type := (.array (.object "com/example/valbonne/valbonne/codec/AttributeCodings$Coding")), accessFlags := 18, slot := 0, constantValue := 0 }, { name := "oldest", type := .int, accessFlags := 2, slot := 1, constantValue := 0 }, { name := "reading", type := (.object "com/example/valbonne/valbonne/codec/AttributeCodings$Coding"), accessFlags := 2, slot := 2, constantValue := 0 }, { name := "readFrom", type := .long, accessFlags := 2, slot := 3, constantValue := 0 }]
  methods := #[k11m0, k11m1, k11m2, k11m3, k11m4]
  instanceTypes := #[(.array (.object "com/example/valbonne/valbonne/codec/AttributeCodings$Coding")), .int, (.object "com/example/valbonne/valbonne/codec/AttributeCodings$Coding"), .long]
  staticTypes := #[.int, .int, .int, (.object "com/example/valbonne/valbonne/codec/AttributeCodings$Coding")]
  resolved := #[none, none, none, none, none, none, none, none, none, some (.cls 12), none, none, none, none, none, none, none, none, none, none, none, none, none, none, none, none, none, none, none, none, some (.method ⟨12, 5⟩), none, none, none, some (.field 12 5), none, none, none, none, none, none, none, some (.field 12 3), none, none, none, none, none, none, none, none, none, none, none, none, some (.method ⟨12, 4⟩), none, none, none, none, none, none, none, none, none, none, none, some (.field 12 8), none, some (.field 12 6), none, none, none, some (.field 12 7), none, none, none, none, none, some (.field 12 4), none, none, none, none, none, none, none, some (.field 12 9), none, none, none, none, none, none, none, none, none, none, none, none, none, none, none, none, none, none, none, none, none, none, none, none, none, none]
  statics := none }

def pool12 : Array CpInfo := pool [(1, .class_ 2), (0, u "com/example/valbonne/valbonne/codec/AttributeCodings"), (0, .methodref 4 5), (0, .class_ 6), (0, .nameAndType 7 8), (0, u "java/lang/Object"), (0, u "<init>"), (0, u "()V"), (0, .fieldref 10 11), (0, .class_ 12), (0, .nameAndType 13 14), (0, u "com/example/valbonne/valbonne/codec/AttributeCodings$Coding"), (0, u "bytes"), (0, u "[B"), (0, .class_ 16), (0, u "com/example/valbonne/valbonne/codec/Name"), (0, .fieldref 10 18), (0, .nameAndType 19 20), (0, u "names"), (0, u "[Lcom/example/valbonne/valbonne/codec/Name;"), (0, .class_ 22), (0, u "java/lang/String"), (0, .fieldref 10 24), (0, .nameAndType 25 26), (0, u "values"), (0, u "[Ljava/lang/String;"), (0, .fieldref 10 28), (0, .nameAndType 29 30), (0, u "size"), (0, u "I"), (0, .fieldref 10 32), (0, .nameAndType 33 34), (0, u "declared"), (0, u "Lcom/example/valbonne/valbonne/codec/DeclaredAttributes;"), (0, .fieldref 10 36), (0, .nameAndType 37 38), (0, u "loose"), (0, u "Z"), (0, .fieldref 10 40), (0, .nameAndType 41 30), (0, u "page"), (0, .fieldref 10 43), (0, .nameAndType 44 38), (0, u "known"), (0, .fieldref 10 46), (0, .nameAndType 47 30), (0, u "length"), (0, .methodref 49 50), (0, .class_ 51), (0, .nameAndType 52 53), (0, u "com/example/valbonne/valbonne/codec/StreamInput"), (0, u "startsWith"), (0, u "([BI)Z"), (0, u "endPage"), (2, u "()I"), (0, u "name"), (0, u "(I)Lcom/example/valbonne/valbonne/codec/Name;"), (0, u "value"), (0, u "(I)Ljava/lang/String;"), (0, u "clear"), (0, u "(Lcom/example/valbonne/valbonne/codec/DeclaredAttributes;ZI)V"), (0, u "codes"), (0, u "(Lcom/example/valbonne/valbonne/codec/StreamInput;Lcom/example/valbonne/valbonne/codec/DeclaredAttributes;ZI)Z")] 6

def k12c0 : Code := { maxStack := 2, maxLocals := 1, code := prog_12_method_1_code, exceptionTable := #[], attributes := #[] }
def k12m0 : Method := { name := "<init>", desc := "()V", sig := { parameters := [], returnType := none }, accessFlags := 0, code := some k12c0 }
def k12c1 : Code := { maxStack := 1, maxLocals := 1, code := prog_12_method_2_code, exceptionTable := #[], attributes := #[] }
def k12m1 : Method := { name := "size", desc := "()I", sig := { parameters := [], returnType := some .int }, accessFlags := 0, code := some k12c1 }
def k12c2 : Code := { maxStack := 2, maxLocals := 2, code := prog_12_method_3_code, exceptionTable := #[], attributes := #[] }
def k12m2 : Method := { name := "name", desc := "(I)Lcom/example/valbonne/valbonne/codec/Name;", sig := { parameters := [.int], returnType := some (.object "com/example/valbonne/valbonne/codec/Name") }, accessFlags := 0, code := some k12c2 }
def k12c3 : Code := { maxStack := 2, maxLocals := 2, code := prog_12_method_4_code, exceptionTable := #[], attributes := #[] }
def k12m3 : Method := { name := "value", desc := "(I)Ljava/lang/String;", sig := { parameters := [.int], returnType := some (.object "java/lang/String") }, accessFlags := 0, code := some k12c3 }
def k12c4 : Code := { maxStack := 2, maxLocals := 4, code := prog_12_method_5_code, exceptionTable := #[], attributes := #[] }
def k12m4 : Method := { name := "clear", desc := "(Lcom/example/valbonne/valbonne/codec/DeclaredAttributes;ZI)V", sig := { parameters := [(.object "com/example/valbonne/valbonne/codec/DeclaredAttributes"), .boolean, .int], returnType := none }, accessFlags := 2, code := some k12c4 }
def k12c5 : Code := { maxStack := 3, maxLocals := 5, code := prog_12_method_6_code, exceptionTable := #[], attributes := #[] }
def k12m5 : Method := { name := "codes", desc := "(Lcom/example/valbonne/valbonne/codec/StreamInput;Lcom/example/valbonne/valbonne/codec/DeclaredAttributes;ZI)Z", sig := { parameters := [(.object "com/example/valbonne/valbonne/codec/StreamInput"), (.object "com/example/valbonne/valbonne/codec/DeclaredAttributes"), .boolean, .int], returnType := some .boolean }, accessFlags := 2, code := some k12c5 }
/-- com/example/valbonne/valbonne/codec/AttributeCodings$Coding -/
def k12 : Class := { plain "com/example/valbonne/valbonne/codec/AttributeCodings$Coding" (some 0) with
  accessFlags := 32
  interfaces := #[]
  cf := some (fileOf pool12 10 #[.nestHost 1] #[{ accessFlags := 0, nameIndex := 7, descriptorIndex := 8, attributes := #[] }, { accessFlags := 0, nameIndex := 29, descriptorIndex := 57, attributes := #[] }, { accessFlags := 0, nameIndex := 58, descriptorIndex := 59, attributes := #[] }, { accessFlags := 0, nameIndex := 60, descriptorIndex := 61, attributes := #[] }, { accessFlags := 2, nameIndex := 62, descriptorIndex := 63, attributes := #[] }, { accessFlags := 2, nameIndex := 64, descriptorIndex := 65, attributes := #[] }] 32 4 #[] #[{ accessFlags := 2, nameIndex := 33, descriptorIndex := 34, attributes := #[] }, { accessFlags := 2, nameIndex := 37, descriptorIndex := 38, attributes := #[] }, { accessFlags := 2, nameIndex := 41, descriptorIndex := 30, attributes := #[] }, { accessFlags := 2, nameIndex := 54, descriptorIndex := 30, attributes := #[] }, { accessFlags := 18, nameIndex := 13, descriptorIndex := 14, attributes := #[] }, { accessFlags := 2, nameIndex := 47, descriptorIndex := 30, attributes := #[] }, { accessFlags := 18, nameIndex := 19, descriptorIndex := 20, attributes := #[] }, { accessFlags := 18, nameIndex := 25, descriptorIndex := 26, attributes := #[] }, { accessFlags := 2, nameIndex := 29, descriptorIndex := 30, attributes := #[] }, { accessFlags := 2, nameIndex := 44, descriptorIndex := 38, attributes := #[] }])
  fields := #[{ name := "declared", type := (.object "com/example/valbonne/valbonne/codec/DeclaredAttributes"), accessFlags := 2, slot := 0, constantValue := 0 }, { name := "loose", type := .boolean, accessFlags := 2, slot := 1, constantValue := 0 }, { name := "page", type := .int, accessFlags := 2, slot := 2, constantValue := 0 }, { name := "endPage", type := .int, accessFlags := 2, slot := 3, constantValue := 0 }, { name := "bytes", type := (.array .byte), accessFlags := 18, slot := 4, constantValue := 0 }, { name := "length", type := .int, accessFlags := 2, slot := 5, constantValue := 0 }, { name := "names", type := (.array (.object "com/example/valbonne/valbonne/codec/Name")), accessFlags := 18, slot := 6, constantValue := 0 }, { name := "values", type := (.array (.object "java/lang/String")), accessFlags := 18, slot := 7, constantValue := 0 }, { name := "size", type := .int, accessFlags := 2, slot := 8, constantValue := 0 }, { name := "known", type := .boolean, accessFlags := 2, slot := 9, constantValue := 0 }]
  methods := #[k12m0, k12m1, k12m2, k12m3, k12m4, k12m5]
  instanceTypes := #[(.object "com/example/valbonne/valbonne/codec/DeclaredAttributes"), .boolean, .int, .int, (.array .byte), .int, (.array (.object "com/example/valbonne/valbonne/codec/Name")), (.array (.object "java/lang/String")), .int, .boolean]
  staticTypes := #[]
  resolved := Array.replicate 72 none
  statics := none }

def pool13 : Array CpInfo := pool [(3, .methodref 4 5), (0, .class_ 6), (0, .nameAndType 7 8), (0, u "java/lang/Object"), (0, u "<init>"), (0, u "()V"), (0, .fieldref 10 11), (0, .class_ 12), (0, .nameAndType 13 14), (0, u "com/example/valbonne/valbonne/codec/StreamInput"), (0, u "table"), (0, u "[B"), (0, .class_ 16), (0, u "com/example/valbonne/valbonne/codec/OffsetNames"), (0, .methodref 15 5), (0, .fieldref 10 19), (0, .nameAndType 20 21), (0, u "literalNames"), (0, u "Lcom/example/valbonne/valbonne/codec/OffsetNames;"), (0, .fieldref 10 23), (0, .nameAndType 24 25), (0, u "source"), (0, u "Ljava/io/InputStream;"), (0, .fieldref 10 27), (0, .nameAndType 28 14), (0, u "bytes"), (0, .fieldref 10 30), (0, .nameAndType 31 32), (0, u "limit"), (0, u "I"), (0, .string 34), (0, u "byte"), (0, .fieldref 10 36), (0, .nameAndType 37 38), (0, u "where"), (0, u "Ljava/lang/String;"), (0, .string 40), (0, u "stream"), (0, .fieldref 10 42), (0, .nameAndType 43 38), (0, u "what"), (0, .fieldref 10 45), (0, .nameAndType 46 47), (0, u "header"), (0, u "Lcom/example/valbonne/valbonne/codec/StreamInput;"), (0, .fieldref 10 49), (0, .nameAndType 50 32), (0, u "pos"), (6, u "position"), (0, u "()J"), (15, .fieldref 10 75), (0, .nameAndType 76 77), (0, u "offset"), (0, u "J"), (2, u "elementPage"), (0, .fieldref 10 82), (0, .nameAndType 83 32), (0, u "attributePage"), (6, .methodref 91 92), (0, .class_ 93), (0, .nameAndType 94 95), (0, u "java/lang/System"), (0, u "arraycopy"), (0, u "(Ljava/lang/Object;ILjava/lang/Object;II)V"), (12, u "()I"), (57, u "tableStart"), (92, u "literalNameBytes"), (28, u "LONGS"), (0, u "Ljava/lang/invoke/VarHandle;"), (58, u "BYTE"), (1, u "STRUCTURE_BYTE"), (0, u "STREAM"), (0, u "STRUCTURE"), (0, u "BUFFER_SIZE"), (1, u "MAX_HELD"), (0, u "([B)V"), (13, u "(I)V"), (0, u "switchAttributePage"), (0, u "startsWith"), (0, u "([BI)Z"), (0, u "skip"), (0, u "copyRead"), (0, u "(J[BI)V")] 34

def k13c0 : Code := { maxStack := 3, maxLocals := 2, code := prog_83_method_1_code, exceptionTable := #[], attributes := #[] }
def k13m0 : Method := { name := "<init>", desc := "([B)V", sig := { parameters := [(.array .byte)], returnType := none }, accessFlags := 0, code := some k13c0 }
def k13c1 : Code := { maxStack := 4, maxLocals := 1, code := prog_83_method_7_code, exceptionTable := #[], attributes := #[] }
def k13m1 : Method := { name := "position", desc := "()J", sig := { parameters := [], returnType := some .long }, accessFlags := 0, code := some k13c1 }
def k13c2 : Code := { maxStack := 1, maxLocals := 1, code := prog_83_method_11_code, exceptionTable := #[], attributes := #[] }
def k13m2 : Method := { name := "attributePage", desc := "()I", sig := { parameters := [], returnType := some .int }, accessFlags := 0, code := some k13c2 }
def k13c3 : Code := { maxStack := 2, maxLocals := 2, code := prog_83_method_12_code, exceptionTable := #[], attributes := #[] }
def k13m3 : Method := { name := "switchAttributePage", desc := "(I)V", sig := { parameters := [.int], returnType := none }, accessFlags := 0, code := some k13c3 }
def k13c4 : Code := { maxStack := 4, maxLocals := 5, code := prog_83_method_13_code, exceptionTable := #[], attributes := #[] }
def k13m4 : Method := { name := "startsWith", desc := "([BI)Z", sig := { parameters := [(.array .byte), .int], returnType := some .boolean }, accessFlags := 0, code := some k13c4 }
def k13c5 : Code := { maxStack := 3, maxLocals := 2, code := prog_83_method_14_code, exceptionTable := #[], attributes := #[] }
def k13m5 : Method := { name := "skip", desc := "(I)V", sig := { parameters := [.int], returnType := none }, accessFlags := 0, code := some k13c5 }
def k13c6 : Code := { maxStack := 5, maxLocals := 5, code := prog_83_method_15_code, exceptionTable := #[], attributes := #[] }
def k13m6 : Method := { name := "copyRead", desc := "(J[BI)V", sig := { parameters := [.long, (.array .byte), .int], returnType := none }, accessFlags := 0, code := some k13c6 }
/-- com/example/valbonne/valbonne/codec/StreamInput -/
def k13 : Class := { plain "com/example/valbonne/valbonne/codec/StreamInput" (some 0) with
  accessFlags := 32
  interfaces := #[]
  cf := some (fileOf pool13 10 #[] #[{ accessFlags := 0, nameIndex := 7, descriptorIndex := 356, attributes := #[] }, { accessFlags := 0, nameIndex := 57, descriptorIndex := 58, attributes := #[] }, { accessFlags := 0, nameIndex := 83, descriptorIndex := 108, attributes := #[] }, { accessFlags := 0, nameIndex := 371, descriptorIndex := 370, attributes := #[] }, { accessFlags := 0, nameIndex := 372, descriptorIndex := 373, attributes := #[] }, { accessFlags := 0, nameIndex := 374, descriptorIndex := 370, attributes := #[] }, { accessFlags := 0, nameIndex := 375, descriptorIndex := 376, attributes := #[] }] 32 4 #[] #[{ accessFlags := 24, nameIndex := 348, descriptorIndex := 38, attributes := #[] }, { accessFlags := 26, nameIndex := 350, descriptorIndex := 38, attributes := #[] }, { accessFlags := 26, nameIndex := 351, descriptorIndex := 38, attributes := #[] }, { accessFlags := 26, nameIndex := 352, descriptorIndex := 38, attributes := #[] }, { accessFlags := 26, nameIndex := 353, descriptorIndex := 32, attributes := #[] }, { accessFlags := 26, nameIndex := 355, descriptorIndex := 32, attributes := #[] }, { accessFlags := 26, nameIndex := 288, descriptorIndex := 289, attributes := #[] }, { accessFlags := 18, nameIndex := 24, descriptorIndex := 25, attributes := #[] }, { accessFlags := 2, nameIndex := 28, descriptorIndex := 14, attributes := #[] }, { accessFlags := 2, nameIndex := 31, descriptorIndex := 32, attributes := #[] }, { accessFlags := 2, nameIndex := 50, descriptorIndex := 32, attributes := #[] }, { accessFlags := 2, nameIndex := 76, descriptorIndex := 77, attributes := #[] }, { accessFlags := 18, nameIndex := 37, descriptorIndex := 38, attributes := #[] }, { accessFlags := 18, nameIndex := 43, descriptorIndex := 38, attributes := #[] }, { accessFlags := 18, nameIndex := 46, descriptorIndex := 47, attributes := #[] }, { accessFlags := 2, nameIndex := 13, descriptorIndex := 14, attributes := #[] }, { accessFlags := 2, nameIndex := 166, descriptorIndex := 77, attributes := #[] }, { accessFlags := 18, nameIndex := 20, descriptorIndex := 21, attributes := #[] }, { accessFlags := 2, nameIndex := 259, descriptorIndex := 77, attributes := #[] }, { accessFlags := 2, nameIndex := 80, descriptorIndex := 32, attributes := #[] }, { accessFlags := 2, nameIndex := 83, descriptorIndex := 32, attributes := #[] }])
  fields := #[{ name := "BYTE", type := (.object "java/lang/String"), accessFlags := 24, slot := 0, constantValue := 0 }, { name := "STRUCTURE_BYTE", type := (.object "java/lang/String"), accessFlags := 26, slot := 1, constantValue := 0 }, { name := "STREAM", type := (.object "java/lang/String"), accessFlags := 26, slot := 2, constantValue := 0 }, { name := "STRUCTURE", type := (.object "java/lang/String"), accessFlags := 26, slot := 3, constantValue := 0 }, { name := "BUFFER_SIZE", type := .int, accessFlags := 26, slot := 4, constantValue := 0 }, { name := "MAX_HELD", type := .int, accessFlags := 26, slot := 5, constantValue := 0 }, { name := "LONGS", type := (.object "java/lang/invoke/VarHandle"), accessFlags := 26, slot := 6, constantValue := 0 }, { name := "source", type := (.object "java/io/InputStream"), accessFlags := 18, slot := 0, constantValue := 0 }, { name := "bytes", type := (.array .byte), accessFlags := 2, slot := 1, constantValue := 0 }, { name := "limit", type := .int, accessFlags := 2, slot := 2, constantValue := 0 }, { name := "pos", type := .int, accessFlags := 2, slot := 3, constantValue := 0 }, { name := "offset", type := .long, accessFlags := 2, slot := 4, constantValue := 0 }, { name := "where", type := (.object "java/lang/String"), accessFlags := 18, slot := 5, constantValue := 0 }, { name := "what", type := (.object "java/lang/String"), accessFlags := 18, slot := 6, constantValue := 0 }, { name := "header", type := (.object "com/example/valbonne/valbonne/codec/StreamInput"), accessFlags := 18, slot := 7, constantValue := 0 }, { name := "table", type := (.array .byte), accessFlags := 2, slot := 8, constantValue := 0 }, { name := "tableStart", type := .long, accessFlags := 2, slot := 9, constantValue := 0 }, { name := "literalNames", type := (.object "com/example/valbonne/valbonne/codec/OffsetNames"), accessFlags := 18, slot := 10, constantValue := 0 }, { name := "literalNameBytes", type := .long, accessFlags := 2, slot := 11, constantValue := 0 }, { name := "elementPage", type := .int, accessFlags := 2, slot := 12, constantValue := 0 }, { name := "attributePage", type := .int, accessFlags := 2, slot := 13, constantValue := 0 }]
  methods := #[k13m0, k13m1, k13m2, k13m3, k13m4, k13m5, k13m6]
  instanceTypes := #[(.object "java/io/InputStream"), (.array .byte), .int, .int, .long, (.object "java/lang/String"), (.object "java/lang/String"), (.object "com/example/valbonne/valbonne/codec/StreamInput"), (.array .byte), .long, (.object "com/example/valbonne/valbonne/codec/OffsetNames"), .long, .int, .int]
  staticTypes := #[(.object "java/lang/String"), (.object "java/lang/String"), (.object "java/lang/String"), (.object "java/lang/String"), .int, .int, (.object "java/lang/invoke/VarHandle")]
  resolved := Array.replicate 411 none
  statics := none }

def pool14 : Array CpInfo := pool [(1, .methodref 2 3), (0, .class_ 4), (0, .nameAndType 5 6), (0, u "java/lang/Object"), (0, u "<init>"), (0, u "()V"), (0, .fieldref 8 9), (0, .class_ 10), (0, .nameAndType 11 12), (0, u "com/example/valbonne/valbonne/codec/OffsetNames"), (0, u "offsets"), (0, u "[J"), (0, .class_ 14), (0, u "com/example/valbonne/valbonne/codec/Name"), (0, .fieldref 8 16), (0, .nameAndType 17 18), (0, u "names"), (0, u "[Lcom/example/valbonne/valbonne/codec/Name;"), (8, u "size"), (0, u "I")] 18

def k14c0 : Code := { maxStack := 2, maxLocals := 1, code := prog_65_method_1_code, exceptionTable := #[], attributes := #[] }
def k14m0 : Method := { name := "<init>", desc := "()V", sig := { parameters := [], returnType := none }, accessFlags := 0, code := some k14c0 }
/-- com/example/valbonne/valbonne/codec/OffsetNames -/
def k14 : Class := { plain "com/example/valbonne/valbonne/codec/OffsetNames" (some 0) with
  accessFlags := 32
  interfaces := #[]
  cf := some (fileOf pool14 8 #[] #[{ accessFlags := 0, nameIndex := 5, descriptorIndex := 6, attributes := #[] }] 32 2 #[] #[{ accessFlags := 2, nameIndex := 11, descriptorIndex := 12, attributes := #[] }, { accessFlags := 2, nameIndex := 17, descriptorIndex := 18, attributes := #[] }, { accessFlags := 2, nameIndex := 27, descriptorIndex := 28, attributes := #[] }])
  fields := #[{ name := "offsets", type := (.array .long), accessFlags := 2, slot := 0, constantValue := 0 }, { name := "names", type := (.array (.object "com/example/valbonne/valbonne/codec/Name")), accessFlags := 2, slot := 1, constantValue := 0 }, { name := "size", type := .int, accessFlags := 2, slot := 2, constantValue := 0 }]
  methods := #[k14m0]
  instanceTypes := #[(.array .long), (.array (.object "com/example/valbonne/valbonne/codec/Name")), .int]
  staticTypes := #[]
  resolved := Array.replicate 47 none
  statics := none }

def pool15 : Array CpInfo := pool [(2, .class_ 4), (1, u "java/lang/Object"), (0, u "<init>"), (0, u "()V"), (1, .class_ 10), (1, u "java/lang/System"), (0, u "allowSecurityManager"), (0, u "I"), (16, u "cons"), (0, u "Ljava/io/Console;"), (77, .class_ 110), (1, u "java/lang/System$CallersHolder"), (43, u "initialErrStream"), (0, u "Ljava/io/PrintStream;"), (19, u "security"), (0, u "Ljava/lang/SecurityManager;"), (31, .class_ 209), (0, u "java/lang/System$1"), (7, u "props"), (0, u "Ljava/util/Properties;"), (2, u "lineSeparator"), (0, u "Ljava/lang/String;"), (96, .class_ 321), (1, u "java/lang/System$LoggerFinder"), (5, .class_ 328), (0, u "java/lang/System$Logger"), (67, u "err"), (2, u "out"), (91, u "notSupportedJnuEncoding"), (15, u "in"), (17, u "initialIn"), (0, u "Ljava/io/InputStream;"), (35, u "bootLayer"), (0, u "Ljava/lang/ModuleLayer;"), (99, .class_ 664), (0, u "java/lang/System$2"), (9, u "NEVER"), (2, u "MAYBE"), (49, u "arraycopy"), (0, u "(Ljava/lang/Object;ILjava/lang/Object;II)V"), (72, .class_ 802), (0, u "java/lang/System$Logger$Level")] 31

def k15m0 : Method := { name := "<init>", desc := "()V", sig := { parameters := [], returnType := none }, accessFlags := 2, code := none }
def k15m1 : Method := { name := "arraycopy", desc := "(Ljava/lang/Object;ILjava/lang/Object;II)V", sig := { parameters := [(.object "java/lang/Object"), .int, (.object "java/lang/Object"), .int, .int], returnType := none }, accessFlags := 265, code := none }
/-- java/lang/System -/
def k15 : Class := { plain "java/lang/System" (some 0) with
  accessFlags := 49
  interfaces := #[]
  cf := some (fileOf pool15 8 #[.nestMembers #[319, 327, 801, 108, 663, 208]] #[{ accessFlags := 2, nameIndex := 5, descriptorIndex := 6, attributes := #[] }, { accessFlags := 265, nameIndex := 727, descriptorIndex := 728, attributes := #[] }] 49 2 #[] #[{ accessFlags := 25, nameIndex := 507, descriptorIndex := 526, attributes := #[] }, { accessFlags := 25, nameIndex := 399, descriptorIndex := 155, attributes := #[] }, { accessFlags := 25, nameIndex := 396, descriptorIndex := 155, attributes := #[] }, { accessFlags := 10, nameIndex := 525, descriptorIndex := 526, attributes := #[] }, { accessFlags := 26, nameIndex := 674, descriptorIndex := 12, attributes := #[] }, { accessFlags := 26, nameIndex := 677, descriptorIndex := 12, attributes := #[] }, { accessFlags := 10, nameIndex := 11, descriptorIndex := 12, attributes := #[] }, { accessFlags := 74, nameIndex := 175, descriptorIndex := 176, attributes := #[] }, { accessFlags := 10, nameIndex := 491, descriptorIndex := 222, attributes := #[] }, { accessFlags := 74, nameIndex := 29, descriptorIndex := 30, attributes := #[] }, { accessFlags := 74, nameIndex := 154, descriptorIndex := 155, attributes := #[] }, { accessFlags := 10, nameIndex := 217, descriptorIndex := 218, attributes := #[] }, { accessFlags := 10, nameIndex := 221, descriptorIndex := 222, attributes := #[] }, { accessFlags := 8, nameIndex := 562, descriptorIndex := 563, attributes := #[] }])
  fields := #[{ name := "in", type := (.object "java/io/InputStream"), accessFlags := 25, slot := 0, constantValue := 0 }, { name := "out", type := (.object "java/io/PrintStream"), accessFlags := 25, slot := 1, constantValue := 0 }, { name := "err", type := (.object "java/io/PrintStream"), accessFlags := 25, slot := 2, constantValue := 0 }, { name := "initialIn", type := (.object "java/io/InputStream"), accessFlags := 10, slot := 3, constantValue := 0 }, { name := "NEVER", type := .int, accessFlags := 26, slot := 4, constantValue := 0 }, { name := "MAYBE", type := .int, accessFlags := 26, slot := 5, constantValue := 0 }, { name := "allowSecurityManager", type := .int, accessFlags := 10, slot := 6, constantValue := 0 }, { name := "security", type := (.object "java/lang/SecurityManager"), accessFlags := 74, slot := 7, constantValue := 0 }, { name := "notSupportedJnuEncoding", type := (.object "java/lang/String"), accessFlags := 10, slot := 8, constantValue := 0 }, { name := "cons", type := (.object "java/io/Console"), accessFlags := 74, slot := 9, constantValue := 0 }, { name := "initialErrStream", type := (.object "java/io/PrintStream"), accessFlags := 74, slot := 10, constantValue := 0 }, { name := "props", type := (.object "java/util/Properties"), accessFlags := 10, slot := 11, constantValue := 0 }, { name := "lineSeparator", type := (.object "java/lang/String"), accessFlags := 10, slot := 12, constantValue := 0 }, { name := "bootLayer", type := (.object "java/lang/ModuleLayer"), accessFlags := 8, slot := 13, constantValue := 0 }]
  methods := #[k15m0, k15m1]
  instanceTypes := #[]
  staticTypes := #[(.object "java/io/InputStream"), (.object "java/io/PrintStream"), (.object "java/io/PrintStream"), (.object "java/io/InputStream"), .int, .int, .int, (.object "java/lang/SecurityManager"), (.object "java/lang/String"), (.object "java/io/Console"), (.object "java/io/PrintStream"), (.object "java/util/Properties"), (.object "java/lang/String"), (.object "java/lang/ModuleLayer")]
  resolved := Array.replicate 834 none
  statics := none }

def pool16 : Array CpInfo := pool [(2, .class_ 4), (1, u "java/lang/Object"), (0, u "<init>"), (0, u "()V"), (17, .class_ 26), (1, u "jdk/internal/util/Preconditions"), (28, .class_ 56), (0, u "jdk/internal/util/Preconditions$4"), (57, .class_ 115), (0, u "jdk/internal/util/Preconditions$1"), (7, u "SIOOBE_FORMATTER"), (0, u "Ljava/util/function/BiFunction;"), (0, .class_ 126), (0, u "jdk/internal/util/Preconditions$2"), (3, u "AIOOBE_FORMATTER"), (0, .class_ 132), (0, u "jdk/internal/util/Preconditions$3"), (3, u "IOOBE_FORMATTER")] 57

def k16m0 : Method := { name := "<init>", desc := "()V", sig := { parameters := [], returnType := none }, accessFlags := 1, code := none }
/-- jdk/internal/util/Preconditions -/
def k16 : Class := { plain "jdk/internal/util/Preconditions" (some 0) with
  accessFlags := 33
  interfaces := #[]
  cf := some (fileOf pool16 24 #[.nestMembers #[55, 131, 125, 114]] #[{ accessFlags := 1, nameIndex := 5, descriptorIndex := 6, attributes := #[] }] 33 2 #[] #[{ accessFlags := 25, nameIndex := 123, descriptorIndex := 124, attributes := #[] }, { accessFlags := 25, nameIndex := 130, descriptorIndex := 124, attributes := #[] }, { accessFlags := 25, nameIndex := 136, descriptorIndex := 124, attributes := #[] }])
  fields := #[{ name := "SIOOBE_FORMATTER", type := (.object "java/util/function/BiFunction"), accessFlags := 25, slot := 0, constantValue := 0 }, { name := "AIOOBE_FORMATTER", type := (.object "java/util/function/BiFunction"), accessFlags := 25, slot := 1, constantValue := 0 }, { name := "IOOBE_FORMATTER", type := (.object "java/util/function/BiFunction"), accessFlags := 25, slot := 2, constantValue := 0 }]
  methods := #[k16m0]
  instanceTypes := #[]
  staticTypes := #[(.object "java/util/function/BiFunction"), (.object "java/util/function/BiFunction"), (.object "java/util/function/BiFunction")]
  resolved := Array.replicate 194 none
  statics := some 1 }

def pool17 : Array CpInfo := pool [(9, u "<init>"), (6, .class_ 18), (1, u "java/lang/Object"), (0, u "()V"), (1, .class_ 23), (1, u "jdk/internal/util/ArraysSupport"), (0, u "LOG2_ARRAY_LONG_INDEX_SCALE"), (0, u "I"), (2, u "U"), (0, u "Ljdk/internal/misc/Unsafe;"), (8, u "BIG_ENDIAN"), (0, u "Z"), (8, u "LOG2_BYTE_BIT_SIZE"), (4, u "LOG2_ARRAY_INT_INDEX_SCALE"), (54, u "JLA"), (0, u "Ljdk/internal/access/JavaLangAccess;"), (11, u "LOG2_ARRAY_BOOLEAN_INDEX_SCALE"), (9, u "LOG2_ARRAY_BYTE_INDEX_SCALE"), (5, u "LOG2_ARRAY_CHAR_INDEX_SCALE"), (5, u "LOG2_ARRAY_SHORT_INDEX_SCALE"), (18, u "LOG2_ARRAY_FLOAT_INDEX_SCALE"), (24, u "LOG2_ARRAY_DOUBLE_INDEX_SCALE"), (89, u "T_BOOLEAN"), (2, u "T_CHAR"), (1, u "T_FLOAT"), (1, u "T_DOUBLE"), (1, u "T_BYTE"), (1, u "T_SHORT"), (1, u "T_INT"), (1, u "T_LONG"), (1, u "SOFT_MAX_ARRAY_LENGTH")] 83

def k17m0 : Method := { name := "<init>", desc := "()V", sig := { parameters := [], returnType := none }, accessFlags := 2, code := none }
/-- jdk/internal/util/ArraysSupport -/
def k17 : Class := { plain "jdk/internal/util/ArraysSupport" (some 0) with
  accessFlags := 33
  interfaces := #[]
  cf := some (fileOf pool17 21 #[] #[{ accessFlags := 2, nameIndex := 9, descriptorIndex := 19, attributes := #[] }] 33 16 #[] #[{ accessFlags := 24, nameIndex := 28, descriptorIndex := 29, attributes := #[] }, { accessFlags := 26, nameIndex := 38, descriptorIndex := 39, attributes := #[] }, { accessFlags := 25, nameIndex := 121, descriptorIndex := 25, attributes := #[] }, { accessFlags := 25, nameIndex := 131, descriptorIndex := 25, attributes := #[] }, { accessFlags := 25, nameIndex := 137, descriptorIndex := 25, attributes := #[] }, { accessFlags := 25, nameIndex := 143, descriptorIndex := 25, attributes := #[] }, { accessFlags := 25, nameIndex := 53, descriptorIndex := 25, attributes := #[] }, { accessFlags := 25, nameIndex := 24, descriptorIndex := 25, attributes := #[] }, { accessFlags := 25, nameIndex := 162, descriptorIndex := 25, attributes := #[] }, { accessFlags := 25, nameIndex := 187, descriptorIndex := 25, attributes := #[] }, { accessFlags := 26, nameIndex := 48, descriptorIndex := 25, attributes := #[] }, { accessFlags := 25, nameIndex := 277, descriptorIndex := 25, attributes := #[] }, { accessFlags := 25, nameIndex := 280, descriptorIndex := 25, attributes := #[] }, { accessFlags := 25, nameIndex := 282, descriptorIndex := 25, attributes := #[] }, { accessFlags := 25, nameIndex := 284, descriptorIndex := 25, attributes := #[] }, { accessFlags := 25, nameIndex := 286, descriptorIndex := 25, attributes := #[] }, { accessFlags := 25, nameIndex := 288, descriptorIndex := 25, attributes := #[] }, { accessFlags := 25, nameIndex := 290, descriptorIndex := 25, attributes := #[] }, { accessFlags := 25, nameIndex := 292, descriptorIndex := 25, attributes := #[] }, { accessFlags := 26, nameIndex := 108, descriptorIndex := 109, attributes := #[] }, { accessFlags := 25, nameIndex := 294, descriptorIndex := 25, attributes := #[] }])
  fields := #[{ name := "U", type := (.object "jdk/internal/misc/Unsafe"), accessFlags := 24, slot := 0, constantValue := 0 }, { name := "BIG_ENDIAN", type := .boolean, accessFlags := 26, slot := 1, constantValue := 0 }, { name := "LOG2_ARRAY_BOOLEAN_INDEX_SCALE", type := .int, accessFlags := 25, slot := 2, constantValue := 0 }, { name := "LOG2_ARRAY_BYTE_INDEX_SCALE", type := .int, accessFlags := 25, slot := 3, constantValue := 0 }, { name := "LOG2_ARRAY_CHAR_INDEX_SCALE", type := .int, accessFlags := 25, slot := 4, constantValue := 0 }, { name := "LOG2_ARRAY_SHORT_INDEX_SCALE", type := .int, accessFlags := 25, slot := 5, constantValue := 0 }, { name := "LOG2_ARRAY_INT_INDEX_SCALE", type := .int, accessFlags := 25, slot := 6, constantValue := 0 }, { name := "LOG2_ARRAY_LONG_INDEX_SCALE", type := .int, accessFlags := 25, slot := 7, constantValue := 0 }, { name := "LOG2_ARRAY_FLOAT_INDEX_SCALE", type := .int, accessFlags := 25, slot := 8, constantValue := 0 }, { name := "LOG2_ARRAY_DOUBLE_INDEX_SCALE", type := .int, accessFlags := 25, slot := 9, constantValue := 0 }, { name := "LOG2_BYTE_BIT_SIZE", type := .int, accessFlags := 26, slot := 10, constantValue := 0 }, { name := "T_BOOLEAN", type := .int, accessFlags := 25, slot := 11, constantValue := 0 }, { name := "T_CHAR", type := .int, accessFlags := 25, slot := 12, constantValue := 0 }, { name := "T_FLOAT", type := .int, accessFlags := 25, slot := 13, constantValue := 0 }, { name := "T_DOUBLE", type := .int, accessFlags := 25, slot := 14, constantValue := 0 }, { name := "T_BYTE", type := .int, accessFlags := 25, slot := 15, constantValue := 0 }, { name := "T_SHORT", type := .int, accessFlags := 25, slot := 16, constantValue := 0 }, { name := "T_INT", type := .int, accessFlags := 25, slot := 17, constantValue := 0 }, { name := "T_LONG", type := .int, accessFlags := 25, slot := 18, constantValue := 0 }, { name := "JLA", type := (.object "jdk/internal/access/JavaLangAccess"), accessFlags := 26, slot := 19, constantValue := 0 }, { name := "SOFT_MAX_ARRAY_LENGTH", type := .int, accessFlags := 25, slot := 20, constantValue := 0 }]
  methods := #[k17m0]
  instanceTypes := #[]
  staticTypes := #[(.object "jdk/internal/misc/Unsafe"), .boolean, .int, .int, .int, .int, .int, .int, .int, .int, .int, .int, .int, .int, .int, .int, .int, .int, .int, (.object "jdk/internal/access/JavaLangAccess"), .int]
  resolved := Array.replicate 378 none
  statics := none }

def pool18 : Array CpInfo := pool [(1, u "java/lang/Cloneable"), (0, .class_ 1), (0, u "java/lang/Object"), (0, .class_ 3)] 3

/-- java/lang/Cloneable -/
def k18 : Class := { plain "java/lang/Cloneable" (some 0) with
  accessFlags := 1537
  interfaces := #[]
  cf := some (fileOf pool18 2 #[] #[] 1537 4 #[] #[])
  fields := #[]
  methods := #[]
  instanceTypes := #[]
  staticTypes := #[]
  resolved := Array.replicate 8 none
  statics := none }

/-- the primitive byte -/
def k19 : Class := { plain "byte" none with kind := .primitive 'B', accessFlags := 0x411 }
/-- [B -/
def k20 : Class := { plain "[B" (some 0) with kind := .array 19 .byte, interfaces := #[18, 3], accessFlags := 1041 }

/-- the primitive char -/
def k21 : Class := { plain "char" none with kind := .primitive 'C', accessFlags := 0x411 }
/-- [C -/
def k22 : Class := { plain "[C" (some 0) with kind := .array 21 .char, interfaces := #[18, 3], accessFlags := 1041 }

/-- the primitive int -/
def k23 : Class := { plain "int" none with kind := .primitive 'I', accessFlags := 0x411 }
/-- [I -/
def k24 : Class := { plain "[I" (some 0) with kind := .array 23 .int, interfaces := #[18, 3], accessFlags := 1041 }

/-- the primitive long -/
def k25 : Class := { plain "long" none with kind := .primitive 'J', accessFlags := 0x411 }
/-- [J -/
def k26 : Class := { plain "[J" (some 0) with kind := .array 25 .long, interfaces := #[18, 3], accessFlags := 1041 }

/-- [Lcom/example/valbonne/valbonne/codec/AttributeCodings$Coding; -/
def k27 : Class := { plain "[Lcom/example/valbonne/valbonne/codec/AttributeCodings$Coding;" (some 0) with kind := .array 12 (.object "com/example/valbonne/valbonne/codec/AttributeCodings$Coding"), interfaces := #[18, 3], accessFlags := 1041 }

/-- [Lcom/example/valbonne/valbonne/codec/Name; -/
def k28 : Class := { plain "[Lcom/example/valbonne/valbonne/codec/Name;" (some 0) with kind := .array 2 (.object "com/example/valbonne/valbonne/codec/Name"), interfaces := #[18, 3], accessFlags := 1041 }

/-- [Ljava/lang/String; -/
def k29 : Class := { plain "[Ljava/lang/String;" (some 0) with kind := .array 8 (.object "java/lang/String"), interfaces := #[18, 3], accessFlags := 1041 }

def heap : Heap := #[{ cls := 8, slots := #[.long 0, .int 1, .null, .int 0, .null, .int 0, .int 0], vm := .statics 8 },
  { cls := 16, slots := #[.null, .null, .null], vm := .statics 16 }]
def classes : Array Class := #[k0, k1, k2, k3, k4, k5, k6, k7, k8, k9, k10, k11, k12, k13, k14, k15, k16, k17, k18, k19, k20, k21, k22, k23, k24, k25, k26, k27, k28, k29]
def interned : List (Array UInt16 × Addr) := []
def slotsUsed : Nat := 10
def theMethod : MethodId := ⟨1, 1⟩
def args0 : Array Value := #[.int 5, .int 5, .int 5, .int 5, .int 5]
def aboutOver (below : List Frame) : State where
  vm := { classes := classes, interned := interned.toArray }
  heap := heap
  slotsUsed := slotsUsed
  threads := #[{ frames := .invoking theMethod args0 :: below }]
def below0 : List Frame := [.native { method := ⟨0, 0⟩, args := #[] }]
def about1 : State := aboutOver below0
def p0 : Program := .bare "" "" ""
def e0 : Env := launch0.env 0 0 0
theorem w_frames : about1.frames = Frame.invoking theMethod args0 :: below0 := rfl
set_option maxRecDepth 65536 in
theorem w_args : argsFit about1.vm theMethod args0 = true := by decide +kernel
set_option maxRecDepth 65536 in
theorem w_heap : heapFits about1 = true := by decide +kernel
set_option maxRecDepth 65536 in
theorem w_runnable : about1.curStatus? = some .runnable := by decide +kernel
set_option maxRecDepth 65536 in
theorem w_alone : about1.alone = true := by decide +kernel
set_option maxRecDepth 65536 in
theorem w_named : about1.methodNamed? x = some theMethod := by decide +kernel
set_option maxRecDepth 65536 in
theorem w_hears : about1.hears theMethod below0 = true := by decide +kernel
set_option maxRecDepth 65536 in
theorem w_ripe : about1.ripe theMethod args0 below0 = true := by decide +kernel
theorem w_running : about1.status = .running := rfl
set_option maxRecDepth 65536 in
theorem w_room : about1.hasRoom e0.platform room_1 = true :=
  launch0.hasRoom_least _ room_1 (by decide +kernel) (by decide +kernel) (by decide +kernel) (by decide +kernel) (by decide +kernel) (by decide +kernel)
theorem allAtoms_all (ts : List Jvm.Cond) (a : Array Jvm.Value) (st : Jvm.State) : (allAtoms ts).before a st = ts.all (fun c => c.before a st) := by
  induction ts with
  | nil => rfl
  | cons c t ih =>
    show (Jvm.Cond.and c (allAtoms t)).before a st = _
    rw [Jvm.Cond.before_and, ih, List.all_cons]
def words1 : List Jvm.Cond := Jvm.Cond.code x code maxLocals ret :: tables_1
/-- a 'code' word, met by the world's own term for the bytes: nothing is compared byte by byte -/
theorem code_word {y : MethodName} {bytes : ByteArray} {mx : Nat} {rt : Option FieldType} {a : Array Value} {s : State} {m : MethodId} {meth : Method} {c : Code} (h1 : s.methodNamed? y = some m) (h2 : s.vm.method? m = some meth) (h3 : meth.code = some c) (h4 : c.code = bytes)
    (h5 : (c.maxLocals == mx && c.exceptionTable.isEmpty && decide (c.maxStack ≤ mostOperands) && decide (meth.sig.returnType = rt) && !meth.locks && decide (parseMethodDescriptor y.desc = some meth.sig)) = true) : (Jvm.Cond.code y bytes mx rt).before a s = true := by
  simp only [Bool.and_eq_true, beq_iff_eq, Bool.not_eq_true', decide_eq_true_eq] at h5
  obtain ⟨⟨⟨⟨⟨g1, g2⟩, g3⟩, g4⟩, g5⟩, g6⟩ := h5
  simp [Cond.before, Cond.holds, Cond.value, h1, h2, h3, h4, g1, g2, g3, g4, g5, g6]
def isCode : Jvm.Cond → Bool
  | .code _ _ _ _ => true
  | _ => false
theorem all_split {L : List Jvm.Cond} {P : Jvm.Cond → Bool} (h1 : L.all (fun c => isCode c || P c) = true) (h2 : ∀ c ∈ L.filter isCode, P c = true) : L.all P = true := by
  refine List.all_eq_true.mpr fun c hc => ?_
  have h := List.all_eq_true.mp h1 c hc
  rcases Bool.eq_false_or_eq_true (isCode c) with hi | hi
  · exact h2 c (List.mem_filter.mpr ⟨hc, hi⟩)
  · simpa [hi] using h
set_option maxRecDepth 65536 in
theorem w_c0 : (Jvm.Cond.code x code maxLocals ret).before args0 about1 = true := code_word (m := ⟨1, 1⟩) (meth := k1m1) (c := k1c1) (by decide +kernel) rfl rfl rfl (by decide +kernel)
set_option maxRecDepth 65536 in
theorem w_c1 : (Jvm.Cond.code ({ cls := "java/lang/String", name := "valueOf", desc := "(C)Ljava/lang/String;" } : Jvm.MethodName) jdk_42_method_139_code (1 : Nat) (Option.some (Jvm.ClassFile.FieldType.object "java/lang/String"))).before args0 about1 = true := code_word (m := ⟨8, 2⟩) (meth := k8m2) (c := k8c2) (by decide +kernel) rfl rfl rfl (by decide +kernel)
set_option maxRecDepth 65536 in
theorem w_c2 : (Jvm.Cond.code ({ cls := "java/lang/StringLatin1", name := "canEncode", desc := "(C)Z" } : Jvm.MethodName) jdk_43_method_3_code (1 : Nat) (Option.some Jvm.ClassFile.FieldType.boolean)).before args0 about1 = true := code_word (m := ⟨9, 1⟩) (meth := k9m1) (c := k9c1) (by decide +kernel) rfl rfl rfl (by decide +kernel)
set_option maxRecDepth 65536 in
theorem w_c3 : (Jvm.Cond.code ({ cls := "java/lang/StringLatin1", name := "toBytes", desc := "(C)[B" } : Jvm.MethodName) jdk_43_method_46_code (1 : Nat) (Option.some (Jvm.ClassFile.FieldType.array Jvm.ClassFile.FieldType.byte))).before args0 about1 = true := code_word (m := ⟨9, 2⟩) (meth := k9m2) (c := k9c2) (by decide +kernel) rfl rfl rfl (by decide +kernel)
set_option maxRecDepth 65536 in
theorem w_c4 : (Jvm.Cond.code ({ cls := "java/lang/String", name := "<init>", desc := "([BB)V" } : Jvm.MethodName) jdk_42_method_151_code (3 : Nat) (Option.none : Option Jvm.ClassFile.FieldType)).before args0 about1 = true := code_word (m := ⟨8, 4⟩) (meth := k8m4) (c := k8c4) (by decide +kernel) rfl rfl rfl (by decide +kernel)
set_option maxRecDepth 65536 in
theorem w_c5 : (Jvm.Cond.code ({ cls := "java/lang/Object", name := "<init>", desc := "()V" } : Jvm.MethodName) object_method_1_code (1 : Nat) (Option.none : Option Jvm.ClassFile.FieldType)).before args0 about1 = true := code_word (m := ⟨0, 0⟩) (meth := k0m0) (c := k0c0) (by decide +kernel) rfl rfl rfl (by decide +kernel)
set_option maxRecDepth 65536 in
theorem w_c6 : (Jvm.Cond.code ({ cls := "com/example/valbonne/valbonne/codec/Name", name := "<init>", desc := "(ILjava/lang/String;)V" } : Jvm.MethodName) prog_63_method_1_code (3 : Nat) (Option.none : Option Jvm.ClassFile.FieldType)).before args0 about1 = true := code_word (m := ⟨2, 0⟩) (meth := k2m0) (c := k2c0) (by decide +kernel) rfl rfl rfl (by decide +kernel)
set_option maxRecDepth 65536 in
theorem w_c7 : (Jvm.Cond.code ({ cls := "java/lang/String", name := "<init>", desc := "([C)V" } : Jvm.MethodName) jdk_42_method_3_code (2 : Nat) (Option.none : Option Jvm.ClassFile.FieldType)).before args0 about1 = true := code_word (m := ⟨8, 1⟩) (meth := k8m1) (c := k8c1) (by decide +kernel) rfl rfl rfl (by decide +kernel)
set_option maxRecDepth 65536 in
theorem w_c8 : (Jvm.Cond.code ({ cls := "java/lang/String", name := "<init>", desc := "([CIILjava/lang/Void;)V" } : Jvm.MethodName) jdk_42_method_149_code (6 : Nat) (Option.none : Option Jvm.ClassFile.FieldType)).before args0 about1 = true := code_word (m := ⟨8, 3⟩) (meth := k8m3) (c := k8c3) (by decide +kernel) rfl rfl rfl (by decide +kernel)
set_option maxRecDepth 65536 in
theorem w_c9 : (Jvm.Cond.code ({ cls := "java/lang/StringUTF16", name := "compress", desc := "([CII)[B" } : Jvm.MethodName) jdk_52_method_16_code (6 : Nat) (Option.some (Jvm.ClassFile.FieldType.array Jvm.ClassFile.FieldType.byte))).before args0 about1 = true := code_word (m := ⟨10, 2⟩) (meth := k10m2) (c := k10c2) (by decide +kernel) rfl rfl rfl (by decide +kernel)
set_option maxRecDepth 65536 in
theorem w_c10 : (Jvm.Cond.code ({ cls := "java/lang/StringUTF16", name := "compress", desc := "([CI[BII)I" } : Jvm.MethodName) jdk_52_method_21_code (7 : Nat) (Option.some Jvm.ClassFile.FieldType.int)).before args0 about1 = true := code_word (m := ⟨10, 3⟩) (meth := k10m3) (c := k10c3) (by decide +kernel) rfl rfl rfl (by decide +kernel)
set_option maxRecDepth 65536 in
theorem w_c11 : (Jvm.Cond.code ({ cls := "java/lang/StringUTF16", name := "coderFromArrayLen", desc := "([BI)B" } : Jvm.MethodName) jdk_52_method_15_code (2 : Nat) (Option.some Jvm.ClassFile.FieldType.byte)).before args0 about1 = true := code_word (m := ⟨10, 1⟩) (meth := k10m1) (c := k10c1) (by decide +kernel) rfl rfl rfl (by decide +kernel)
set_option maxRecDepth 65536 in
theorem w_c12 : (Jvm.Cond.code ({ cls := "com/example/valbonne/valbonne/codec/AttributeCodings", name := "<init>", desc := "()V" } : Jvm.MethodName) prog_11_method_1_code (1 : Nat) (Option.none : Option Jvm.ClassFile.FieldType)).before args0 about1 = true := code_word (m := ⟨11, 0⟩) (meth := k11m0) (c := k11c0) (by decide +kernel) rfl rfl rfl (by decide +kernel)
set_option maxRecDepth 65536 in
theorem w_c13 : (Jvm.Cond.code ({ cls := "com/example/valbonne/valbonne/codec/StreamInput", name := "<init>", desc := "([B)V" } : Jvm.MethodName) prog_83_method_1_code (2 : Nat) (Option.none : Option Jvm.ClassFile.FieldType)).before args0 about1 = true := code_word (m := ⟨13, 0⟩) (meth := k13m0) (c := k13c0) (by decide +kernel) rfl rfl rfl (by decide +kernel)
set_option maxRecDepth 65536 in
theorem w_c14 : (Jvm.Cond.code ({ cls := "com/example/valbonne/valbonne/codec/OffsetNames", name := "<init>", desc := "()V" } : Jvm.MethodName) prog_65_method_1_code (1 : Nat) (Option.none : Option Jvm.ClassFile.FieldType)).before args0 about1 = true := code_word (m := ⟨14, 0⟩) (meth := k14m0) (c := k14c0) (by decide +kernel) rfl rfl rfl (by decide +kernel)
set_option maxRecDepth 65536 in
theorem w_c15 : (Jvm.Cond.code ({ cls := "com/example/valbonne/valbonne/codec/AttributeCodings", name := "end", desc := "(Lcom/example/valbonne/valbonne/codec/StreamInput;)V" } : Jvm.MethodName) prog_11_method_5_code (4 : Nat) (Option.none : Option Jvm.ClassFile.FieldType)).before args0 about1 = true := code_word (m := ⟨11, 4⟩) (meth := k11m4) (c := k11c4) (by decide +kernel) rfl rfl rfl (by decide +kernel)
set_option maxRecDepth 65536 in
theorem w_c16 : (Jvm.Cond.code ({ cls := "com/example/valbonne/valbonne/codec/StreamInput", name := "position", desc := "()J" } : Jvm.MethodName) prog_83_method_7_code (1 : Nat) (Option.some Jvm.ClassFile.FieldType.long)).before args0 about1 = true := code_word (m := ⟨13, 1⟩) (meth := k13m1) (c := k13c1) (by decide +kernel) rfl rfl rfl (by decide +kernel)
set_option maxRecDepth 65536 in
theorem w_c17 : (Jvm.Cond.code ({ cls := "com/example/valbonne/valbonne/codec/AttributeCodings", name := "readKnown", desc := "(Lcom/example/valbonne/valbonne/codec/StreamInput;Lcom/example/valbonne/valbonne/codec/DeclaredAttributes;Z)Lcom/example/valbonne/valbonne/codec/AttributeCodings$Coding;" } : Jvm.MethodName) prog_11_method_2_code (7 : Nat) (Option.some (Jvm.ClassFile.FieldType.object "com/example/valbonne/valbonne/codec/AttributeCodings$Coding"))).before args0 about1 = true := code_word (m := ⟨11, 1⟩) (meth := k11m1) (c := k11c1) (by decide +kernel) rfl rfl rfl (by decide +kernel)
set_option maxRecDepth 65536 in
theorem w_c18 : (Jvm.Cond.code ({ cls := "com/example/valbonne/valbonne/codec/StreamInput", name := "attributePage", desc := "()I" } : Jvm.MethodName) prog_83_method_11_code (1 : Nat) (Option.some Jvm.ClassFile.FieldType.int)).before args0 about1 = true := code_word (m := ⟨13, 2⟩) (meth := k13m2) (c := k13c2) (by decide +kernel) rfl rfl rfl (by decide +kernel)
set_option maxRecDepth 65536 in
theorem w_c19 : (Jvm.Cond.code ({ cls := "com/example/valbonne/valbonne/codec/AttributeCodings", name := "begin", desc := "(Lcom/example/valbonne/valbonne/codec/StreamInput;Lcom/example/valbonne/valbonne/codec/DeclaredAttributes;Z)V" } : Jvm.MethodName) prog_11_method_3_code (4 : Nat) (Option.none : Option Jvm.ClassFile.FieldType)).before args0 about1 = true := code_word (m := ⟨11, 2⟩) (meth := k11m2) (c := k11c2) (by decide +kernel) rfl rfl rfl (by decide +kernel)
set_option maxRecDepth 65536 in
theorem w_c20 : (Jvm.Cond.code ({ cls := "com/example/valbonne/valbonne/codec/AttributeCodings$Coding", name := "<init>", desc := "()V" } : Jvm.MethodName) prog_12_method_1_code (1 : Nat) (Option.none : Option Jvm.ClassFile.FieldType)).before args0 about1 = true := code_word (m := ⟨12, 0⟩) (meth := k12m0) (c := k12c0) (by decide +kernel) rfl rfl rfl (by decide +kernel)
set_option maxRecDepth 65536 in
theorem w_c21 : (Jvm.Cond.code ({ cls := "com/example/valbonne/valbonne/codec/AttributeCodings$Coding", name := "clear", desc := "(Lcom/example/valbonne/valbonne/codec/DeclaredAttributes;ZI)V" } : Jvm.MethodName) prog_12_method_5_code (4 : Nat) (Option.none : Option Jvm.ClassFile.FieldType)).before args0 about1 = true := code_word (m := ⟨12, 4⟩) (meth := k12m4) (c := k12c4) (by decide +kernel) rfl rfl rfl (by decide +kernel)
set_option maxRecDepth 65536 in
theorem w_c22 : (Jvm.Cond.code ({ cls := "com/example/valbonne/valbonne/codec/AttributeCodings", name := "add", desc := "(Lcom/example/valbonne/valbonne/codec/Name;Ljava/lang/String;)V" } : Jvm.MethodName) prog_11_method_4_code (3 : Nat) (Option.none : Option Jvm.ClassFile.FieldType)).before args0 about1 = true := code_word (m := ⟨11, 3⟩) (meth := k11m3) (c := k11c3) (by decide +kernel) rfl rfl rfl (by decide +kernel)
set_option maxRecDepth 65536 in
theorem w_c23 : (Jvm.Cond.code ({ cls := "com/example/valbonne/valbonne/codec/StreamInput", name := "copyRead", desc := "(J[BI)V" } : Jvm.MethodName) prog_83_method_15_code (5 : Nat) (Option.none : Option Jvm.ClassFile.FieldType)).before args0 about1 = true := code_word (m := ⟨13, 6⟩) (meth := k13m6) (c := k13c6) (by decide +kernel) rfl rfl rfl (by decide +kernel)
set_option maxRecDepth 65536 in
theorem w_c24 : (Jvm.Cond.code ({ cls := "com/example/valbonne/valbonne/codec/AttributeCodings$Coding", name := "codes", desc := "(Lcom/example/valbonne/valbonne/codec/StreamInput;Lcom/example/valbonne/valbonne/codec/DeclaredAttributes;ZI)Z" } : Jvm.MethodName) prog_12_method_6_code (5 : Nat) (Option.some Jvm.ClassFile.FieldType.boolean)).before args0 about1 = true := code_word (m := ⟨12, 5⟩) (meth := k12m5) (c := k12c5) (by decide +kernel) rfl rfl rfl (by decide +kernel)
set_option maxRecDepth 65536 in
theorem w_c25 : (Jvm.Cond.code ({ cls := "com/example/valbonne/valbonne/codec/StreamInput", name := "startsWith", desc := "([BI)Z" } : Jvm.MethodName) prog_83_method_13_code (5 : Nat) (Option.some Jvm.ClassFile.FieldType.boolean)).before args0 about1 = true := code_word (m := ⟨13, 4⟩) (meth := k13m4) (c := k13c4) (by decide +kernel) rfl rfl rfl (by decide +kernel)
set_option maxRecDepth 65536 in
theorem w_c26 : (Jvm.Cond.code ({ cls := "com/example/valbonne/valbonne/codec/StreamInput", name := "skip", desc := "(I)V" } : Jvm.MethodName) prog_83_method_14_code (2 : Nat) (Option.none : Option Jvm.ClassFile.FieldType)).before args0 about1 = true := code_word (m := ⟨13, 5⟩) (meth := k13m5) (c := k13c5) (by decide +kernel) rfl rfl rfl (by decide +kernel)
set_option maxRecDepth 65536 in
theorem w_c27 : (Jvm.Cond.code ({ cls := "com/example/valbonne/valbonne/codec/StreamInput", name := "switchAttributePage", desc := "(I)V" } : Jvm.MethodName) prog_83_method_12_code (2 : Nat) (Option.none : Option Jvm.ClassFile.FieldType)).before args0 about1 = true := code_word (m := ⟨13, 3⟩) (meth := k13m3) (c := k13c3) (by decide +kernel) rfl rfl rfl (by decide +kernel)
set_option maxRecDepth 65536 in
theorem w_c28 : (Jvm.Cond.code ({ cls := "com/example/valbonne/valbonne/codec/AttributeCodings$Coding", name := "size", desc := "()I" } : Jvm.MethodName) prog_12_method_2_code (1 : Nat) (Option.some Jvm.ClassFile.FieldType.int)).before args0 about1 = true := code_word (m := ⟨12, 1⟩) (meth := k12m1) (c := k12c1) (by decide +kernel) rfl rfl rfl (by decide +kernel)
set_option maxRecDepth 65536 in
theorem w_c29 : (Jvm.Cond.code ({ cls := "com/example/valbonne/valbonne/codec/AttributeCodingsAddPinLaw", name := "at", desc := "(Lcom/example/valbonne/valbonne/codec/AttributeCodings$Coding;ILcom/example/valbonne/valbonne/codec/Name;Ljava/lang/String;)Z" } : Jvm.MethodName) method_4_code (4 : Nat) (Option.some Jvm.ClassFile.FieldType.boolean)).before args0 about1 = true := code_word (m := ⟨1, 3⟩) (meth := k1m3) (c := k1c3) (by decide +kernel) rfl rfl rfl (by decide +kernel)
set_option maxRecDepth 65536 in
theorem w_c30 : (Jvm.Cond.code ({ cls := "com/example/valbonne/valbonne/codec/AttributeCodings$Coding", name := "name", desc := "(I)Lcom/example/valbonne/valbonne/codec/Name;" } : Jvm.MethodName) prog_12_method_3_code (2 : Nat) (Option.some (Jvm.ClassFile.FieldType.object "com/example/valbonne/valbonne/codec/Name"))).before args0 about1 = true := code_word (m := ⟨12, 2⟩) (meth := k12m2) (c := k12c2) (by decide +kernel) rfl rfl rfl (by decide +kernel)
set_option maxRecDepth 65536 in
theorem w_c31 : (Jvm.Cond.code ({ cls := "com/example/valbonne/valbonne/codec/AttributeCodings$Coding", name := "value", desc := "(I)Ljava/lang/String;" } : Jvm.MethodName) prog_12_method_4_code (2 : Nat) (Option.some (Jvm.ClassFile.FieldType.object "java/lang/String"))).before args0 about1 = true := code_word (m := ⟨12, 3⟩) (meth := k12m3) (c := k12c3) (by decide +kernel) rfl rfl rfl (by decide +kernel)
set_option maxRecDepth 65536 in
theorem w_c32 : (Jvm.Cond.code ({ cls := "com/example/valbonne/valbonne/codec/AttributeCodingsAddPinLaw", name := "addFour", desc := "(Lcom/example/valbonne/valbonne/codec/AttributeCodings;Lcom/example/valbonne/valbonne/codec/Name;Ljava/lang/String;)V" } : Jvm.MethodName) method_3_code (3 : Nat) (Option.none : Option Jvm.ClassFile.FieldType)).before args0 about1 = true := code_word (m := ⟨1, 2⟩) (meth := k1m2) (c := k1c2) (by decide +kernel) rfl rfl rfl (by decide +kernel)
def codes1 : List Jvm.Cond := [Jvm.Cond.code x code maxLocals ret, Jvm.Cond.code ({ cls := "java/lang/String", name := "valueOf", desc := "(C)Ljava/lang/String;" } : Jvm.MethodName) jdk_42_method_139_code (1 : Nat) (Option.some (Jvm.ClassFile.FieldType.object "java/lang/String")), Jvm.Cond.code ({ cls := "java/lang/StringLatin1", name := "canEncode", desc := "(C)Z" } : Jvm.MethodName) jdk_43_method_3_code (1 : Nat) (Option.some Jvm.ClassFile.FieldType.boolean), Jvm.Cond.code ({ cls := "java/lang/StringLatin1", name := "toBytes", desc := "(C)[B" } : Jvm.MethodName) jdk_43_method_46_code (1 : Nat) (Option.some (Jvm.ClassFile.FieldType.array Jvm.ClassFile.FieldType.byte)), Jvm.Cond.code ({ cls := "java/lang/String", name := "<init>", desc := "([BB)V" } : Jvm.MethodName) jdk_42_method_151_code (3 : Nat) (Option.none : Option Jvm.ClassFile.FieldType), Jvm.Cond.code ({ cls := "java/lang/Object", name := "<init>", desc := "()V" } : Jvm.MethodName) object_method_1_code (1 : Nat) (Option.none : Option Jvm.ClassFile.FieldType), Jvm.Cond.code ({ cls := "com/example/valbonne/valbonne/codec/Name", name := "<init>", desc := "(ILjava/lang/String;)V" } : Jvm.MethodName) prog_63_method_1_code (3 : Nat) (Option.none : Option Jvm.ClassFile.FieldType), Jvm.Cond.code ({ cls := "java/lang/String", name := "<init>", desc := "([C)V" } : Jvm.MethodName) jdk_42_method_3_code (2 : Nat) (Option.none : Option Jvm.ClassFile.FieldType), Jvm.Cond.code ({ cls := "java/lang/String", name := "<init>", desc := "([CIILjava/lang/Void;)V" } : Jvm.MethodName) jdk_42_method_149_code (6 : Nat) (Option.none : Option Jvm.ClassFile.FieldType), Jvm.Cond.code ({ cls := "java/lang/StringUTF16", name := "compress", desc := "([CII)[B" } : Jvm.MethodName) jdk_52_method_16_code (6 : Nat) (Option.some (Jvm.ClassFile.FieldType.array Jvm.ClassFile.FieldType.byte)), Jvm.Cond.code ({ cls := "java/lang/StringUTF16", name := "compress", desc := "([CI[BII)I" } : Jvm.MethodName) jdk_52_method_21_code (7 : Nat) (Option.some Jvm.ClassFile.FieldType.int), Jvm.Cond.code ({ cls := "java/lang/StringUTF16", name := "coderFromArrayLen", desc := "([BI)B" } : Jvm.MethodName) jdk_52_method_15_code (2 : Nat) (Option.some Jvm.ClassFile.FieldType.byte), Jvm.Cond.code ({ cls := "com/example/valbonne/valbonne/codec/AttributeCodings", name := "<init>", desc := "()V" } : Jvm.MethodName) prog_11_method_1_code (1 : Nat) (Option.none : Option Jvm.ClassFile.FieldType), Jvm.Cond.code ({ cls := "com/example/valbonne/valbonne/codec/StreamInput", name := "<init>", desc := "([B)V" } : Jvm.MethodName) prog_83_method_1_code (2 : Nat) (Option.none : Option Jvm.ClassFile.FieldType), Jvm.Cond.code ({ cls := "com/example/valbonne/valbonne/codec/OffsetNames", name := "<init>", desc := "()V" } : Jvm.MethodName) prog_65_method_1_code (1 : Nat) (Option.none : Option Jvm.ClassFile.FieldType), Jvm.Cond.code ({ cls := "com/example/valbonne/valbonne/codec/AttributeCodings", name := "end", desc := "(Lcom/example/valbonne/valbonne/codec/StreamInput;)V" } : Jvm.MethodName) prog_11_method_5_code (4 : Nat) (Option.none : Option Jvm.ClassFile.FieldType), Jvm.Cond.code ({ cls := "com/example/valbonne/valbonne/codec/StreamInput", name := "position", desc := "()J" } : Jvm.MethodName) prog_83_method_7_code (1 : Nat) (Option.some Jvm.ClassFile.FieldType.long), Jvm.Cond.code ({ cls := "com/example/valbonne/valbonne/codec/AttributeCodings", name := "readKnown", desc := "(Lcom/example/valbonne/valbonne/codec/StreamInput;Lcom/example/valbonne/valbonne/codec/DeclaredAttributes;Z)Lcom/example/valbonne/valbonne/codec/AttributeCodings$Coding;" } : Jvm.MethodName) prog_11_method_2_code (7 : Nat) (Option.some (Jvm.ClassFile.FieldType.object "com/example/valbonne/valbonne/codec/AttributeCodings$Coding")), Jvm.Cond.code ({ cls := "com/example/valbonne/valbonne/codec/StreamInput", name := "attributePage", desc := "()I" } : Jvm.MethodName) prog_83_method_11_code (1 : Nat) (Option.some Jvm.ClassFile.FieldType.int), Jvm.Cond.code ({ cls := "com/example/valbonne/valbonne/codec/AttributeCodings", name := "begin", desc := "(Lcom/example/valbonne/valbonne/codec/StreamInput;Lcom/example/valbonne/valbonne/codec/DeclaredAttributes;Z)V" } : Jvm.MethodName) prog_11_method_3_code (4 : Nat) (Option.none : Option Jvm.ClassFile.FieldType), Jvm.Cond.code ({ cls := "com/example/valbonne/valbonne/codec/AttributeCodings$Coding", name := "<init>", desc := "()V" } : Jvm.MethodName) prog_12_method_1_code (1 : Nat) (Option.none : Option Jvm.ClassFile.FieldType), Jvm.Cond.code ({ cls := "com/example/valbonne/valbonne/codec/AttributeCodings$Coding", name := "clear", desc := "(Lcom/example/valbonne/valbonne/codec/DeclaredAttributes;ZI)V" } : Jvm.MethodName) prog_12_method_5_code (4 : Nat) (Option.none : Option Jvm.ClassFile.FieldType), Jvm.Cond.code ({ cls := "com/example/valbonne/valbonne/codec/AttributeCodings", name := "add", desc := "(Lcom/example/valbonne/valbonne/codec/Name;Ljava/lang/String;)V" } : Jvm.MethodName) prog_11_method_4_code (3 : Nat) (Option.none : Option Jvm.ClassFile.FieldType), Jvm.Cond.code ({ cls := "com/example/valbonne/valbonne/codec/StreamInput", name := "copyRead", desc := "(J[BI)V" } : Jvm.MethodName) prog_83_method_15_code (5 : Nat) (Option.none : Option Jvm.ClassFile.FieldType), Jvm.Cond.code ({ cls := "com/example/valbonne/valbonne/codec/AttributeCodings$Coding", name := "codes", desc := "(Lcom/example/valbonne/valbonne/codec/StreamInput;Lcom/example/valbonne/valbonne/codec/DeclaredAttributes;ZI)Z" } : Jvm.MethodName) prog_12_method_6_code (5 : Nat) (Option.some Jvm.ClassFile.FieldType.boolean), Jvm.Cond.code ({ cls := "com/example/valbonne/valbonne/codec/StreamInput", name := "startsWith", desc := "([BI)Z" } : Jvm.MethodName) prog_83_method_13_code (5 : Nat) (Option.some Jvm.ClassFile.FieldType.boolean), Jvm.Cond.code ({ cls := "com/example/valbonne/valbonne/codec/StreamInput", name := "skip", desc := "(I)V" } : Jvm.MethodName) prog_83_method_14_code (2 : Nat) (Option.none : Option Jvm.ClassFile.FieldType), Jvm.Cond.code ({ cls := "com/example/valbonne/valbonne/codec/StreamInput", name := "switchAttributePage", desc := "(I)V" } : Jvm.MethodName) prog_83_method_12_code (2 : Nat) (Option.none : Option Jvm.ClassFile.FieldType), Jvm.Cond.code ({ cls := "com/example/valbonne/valbonne/codec/AttributeCodings$Coding", name := "size", desc := "()I" } : Jvm.MethodName) prog_12_method_2_code (1 : Nat) (Option.some Jvm.ClassFile.FieldType.int), Jvm.Cond.code ({ cls := "com/example/valbonne/valbonne/codec/AttributeCodingsAddPinLaw", name := "at", desc := "(Lcom/example/valbonne/valbonne/codec/AttributeCodings$Coding;ILcom/example/valbonne/valbonne/codec/Name;Ljava/lang/String;)Z" } : Jvm.MethodName) method_4_code (4 : Nat) (Option.some Jvm.ClassFile.FieldType.boolean), Jvm.Cond.code ({ cls := "com/example/valbonne/valbonne/codec/AttributeCodings$Coding", name := "name", desc := "(I)Lcom/example/valbonne/valbonne/codec/Name;" } : Jvm.MethodName) prog_12_method_3_code (2 : Nat) (Option.some (Jvm.ClassFile.FieldType.object "com/example/valbonne/valbonne/codec/Name")), Jvm.Cond.code ({ cls := "com/example/valbonne/valbonne/codec/AttributeCodings$Coding", name := "value", desc := "(I)Ljava/lang/String;" } : Jvm.MethodName) prog_12_method_4_code (2 : Nat) (Option.some (Jvm.ClassFile.FieldType.object "java/lang/String")), Jvm.Cond.code ({ cls := "com/example/valbonne/valbonne/codec/AttributeCodingsAddPinLaw", name := "addFour", desc := "(Lcom/example/valbonne/valbonne/codec/AttributeCodings;Lcom/example/valbonne/valbonne/codec/Name;Ljava/lang/String;)V" } : Jvm.MethodName) method_3_code (3 : Nat) (Option.none : Option Jvm.ClassFile.FieldType)]
set_option maxRecDepth 65536 in
theorem codes_eq : words1.filter isCode = codes1 := rfl
theorem w_codes : ∀ c ∈ words1.filter isCode, c.before args0 about1 = true := by
  rw [codes_eq]
  intro c hc
  simp only [codes1, List.mem_cons, List.not_mem_nil, or_false] at hc
  rcases hc with rfl | rfl | rfl | rfl | rfl | rfl | rfl | rfl | rfl | rfl | rfl | rfl | rfl | rfl | rfl | rfl | rfl | rfl | rfl | rfl | rfl | rfl | rfl | rfl | rfl | rfl | rfl | rfl | rfl | rfl | rfl | rfl | rfl
  · exact w_c0
  · exact w_c1
  · exact w_c2
  · exact w_c3
  · exact w_c4
  · exact w_c5
  · exact w_c6
  · exact w_c7
  · exact w_c8
  · exact w_c9
  · exact w_c10
  · exact w_c11
  · exact w_c12
  · exact w_c13
  · exact w_c14
  · exact w_c15
  · exact w_c16
  · exact w_c17
  · exact w_c18
  · exact w_c19
  · exact w_c20
  · exact w_c21
  · exact w_c22
  · exact w_c23
  · exact w_c24
  · exact w_c25
  · exact w_c26
  · exact w_c27
  · exact w_c28
  · exact w_c29
  · exact w_c30
  · exact w_c31
  · exact w_c32
set_option maxRecDepth 65536 in
theorem w_t1 : (words1.take 24).all (fun c => isCode c || c.before args0 about1) = true := by decide +kernel
set_option maxRecDepth 65536 in
theorem w_t2 : ((words1.drop 24).take 24).all (fun c => isCode c || c.before args0 about1) = true := by decide +kernel
set_option maxRecDepth 65536 in
theorem w_t3 : (((words1.drop 24).drop 24).take 24).all (fun c => isCode c || c.before args0 about1) = true := by decide +kernel
set_option maxRecDepth 65536 in
theorem w_t4 : ((((words1.drop 24).drop 24).drop 24).take 24).all (fun c => isCode c || c.before args0 about1) = true := by decide +kernel
set_option maxRecDepth 65536 in
theorem w_t5 : (((((words1.drop 24).drop 24).drop 24).drop 24).take 24).all (fun c => isCode c || c.before args0 about1) = true := by decide +kernel
set_option maxRecDepth 65536 in
theorem w_t6 : ((((((words1.drop 24).drop 24).drop 24).drop 24).drop 24).take 24).all (fun c => isCode c || c.before args0 about1) = true := by decide +kernel
set_option maxRecDepth 65536 in
theorem w_t7 : (((((((words1.drop 24).drop 24).drop 24).drop 24).drop 24).drop 24).take 24).all (fun c => isCode c || c.before args0 about1) = true := by decide +kernel
set_option maxRecDepth 65536 in
theorem w_t8 : ((((((((words1.drop 24).drop 24).drop 24).drop 24).drop 24).drop 24).drop 24).take 24).all (fun c => isCode c || c.before args0 about1) = true := by decide +kernel
set_option maxRecDepth 65536 in
theorem w_t9 : (((((((((words1.drop 24).drop 24).drop 24).drop 24).drop 24).drop 24).drop 24).drop 24).take 24).all (fun c => isCode c || c.before args0 about1) = true := by decide +kernel
set_option maxRecDepth 65536 in
theorem w_t10 : ((((((((((words1.drop 24).drop 24).drop 24).drop 24).drop 24).drop 24).drop 24).drop 24).drop 24).take 24).all (fun c => isCode c || c.before args0 about1) = true := by decide +kernel
set_option maxRecDepth 65536 in
theorem w_t11 : ((((((((((words1.drop 24).drop 24).drop 24).drop 24).drop 24).drop 24).drop 24).drop 24).drop 24).drop 24).all (fun c => isCode c || c.before args0 about1) = true := by decide +kernel
theorem w_tables : (allAtoms (Jvm.Cond.code x code maxLocals ret :: tables_1)).before args0 about1 = true := by
  rw [allAtoms_all]
  show words1.all (fun c => c.before args0 about1) = true
  refine all_split ?_ w_codes
  rw [← List.take_append_drop 24 words1, List.all_append, w_t1, ← List.take_append_drop 24 (words1.drop 24), List.all_append, w_t2, ← List.take_append_drop 24 ((words1.drop 24).drop 24), List.all_append, w_t3, ← List.take_append_drop 24 (((words1.drop 24).drop 24).drop 24), List.all_append, w_t4, ← List.take_append_drop 24 ((((words1.drop 24).drop 24).drop 24).drop 24), List.all_append, w_t5, ← List.take_append_drop 24 (((((words1.drop 24).drop 24).drop 24).drop 24).drop 24), List.all_append, w_t6, ← List.take_append_drop 24 ((((((words1.drop 24).drop 24).drop 24).drop 24).drop 24).drop 24), List.all_append, w_t7, ← List.take_append_drop 24 (((((((words1.drop 24).drop 24).drop 24).drop 24).drop 24).drop 24).drop 24), List.all_append, w_t8, ← List.take_append_drop 24 ((((((((words1.drop 24).drop 24).drop 24).drop 24).drop 24).drop 24).drop 24).drop 24), List.all_append, w_t9, ← List.take_append_drop 24 (((((((((words1.drop 24).drop 24).drop 24).drop 24).drop 24).drop 24).drop 24).drop 24).drop 24), List.all_append, w_t10, w_t11]
  rfl
set_option maxRecDepth 65536 in
theorem w_rest : rest_1_c.before args0 about1 = true := by decide +kernel
set_option maxRecDepth 65536 in
theorem w_case : (Jvm.Cond.and given_1 narrow_1).before args0 about1 = true := by decide +kernel
theorem w_applies : (headSpec (Jvm.Cond.code x code maxLocals ret :: tables_1) room_1).applies x e0.platform about1 = true :=
  (Spec.applies_iff w_frames).mpr ⟨w_running, w_runnable, w_alone, w_named, w_hears, w_ripe, w_room, w_tables⟩
theorem atStart : AtStart classFile x code maxLocals ret World_1 tables_1 room_1 Calls_1 rest_1 Pre_1 launch0 p0 e0 about1 theMethod args0 below0 :=
  ⟨lists_1, trivial, launch0.admits_env _ _ _, launch0.least_env, fairChoices_fair.cas, fairChoices_fair.clock, w_frames, w_args, w_heap, w_applies, trivial, w_rest, w_case⟩
end start1
theorem witness_1 : WitnessClaimed_1 := ⟨start1.p0, start1.e0, start1.about1, start1.theMethod, start1.args0, start1.below0, start1.atStart⟩
end Jvm.Pilot.@@N@@
