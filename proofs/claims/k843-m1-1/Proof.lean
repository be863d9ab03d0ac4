import JvmDerived
import JvmDerived.Pilot.@@N@@Statement
import JvmDerived.Pilot.@@N@@Code
set_option linter.unusedVariables false
set_option linter.unusedSimpArgs false
namespace Jvm.Pilot.@@N@@
open Jvm Jvm.ClassFile Sem Op Lib Jvm.Free Jvm.Stand Jvm.LawKit Jvm.RoadKit Bundle Jvm.Pilot.@@N@@.Jvm.D
section Own
variable {p : Program} {l : Launch} {e : Env} {R : Room} {s : State} {m : MethodId} {args : Array Value} {below : List Frame} {meth : Method} {c : Code} {T T' : State} {locs : List Loc} {cells slots : Nat} {QQ : Option Value → Heap → List Loc → Prop} {kc ks : Nat} {f f' : JFrame}
/-- from here the run comes to the method's return, with what QQ says -/
def own_Goes (p : Program) (e : Env) (below : List Frame) (s : State) (QQ : Option Value → Heap → List Loc → Prop) (kc ks : Nat) (T : State) (f : JFrame) : Prop :=
  ∃ s₂ o, Steps p.tables e below (T.setTop f) s₂ ∧ s₂.status = .running ∧ Ended s₂ below o ∧ ∃ v L, o = .returned v ∧ QQ v s₂.heap L ∧ FrameEnd s o s₂ L kc ks
theorem own_step (st : ∀ target, Steps p.tables e below (T'.setTop f') target → Steps p.tables e below (T.setTop f) target) (h : own_Goes p e below s QQ kc ks T' f') : own_Goes p e below s QQ kc ks T f := by
  obtain ⟨s₂, o, h1, r⟩ := h
  exact ⟨s₂, o, st _ h1, r⟩
theorem own_jump (st : Steps p.tables e below (T.setTop f) (T'.setTop f')) (h : own_Goes p e below s QQ kc ks T' f') : own_Goes p e below s QQ kc ks T f := by
  obtain ⟨s₂, o, h1, r⟩ := h
  exact ⟨s₂, o, st.trans h1, r⟩
theorem own_out {v : Option Value} (X : Stand p l e R s m args below meth c T locs cells slots) (hlk : meth.locks = false) (hv : meth.sig.returnType = none → v = none)
    (st : ∀ fs, (∀ (f : JFrame) (acts : List Action), f.method = m → f.locked = none → f.entered = [] → (doReturn e (T.setTop f) acts v).1 = T.setFrames fs) → Steps p.tables e below (T.setTop f) (T.setFrames fs)) (hc : cells ≤ kc) (hs : slots ≤ ks) (hq : QQ v T.heap locs) : own_Goes p e below s QQ kc ks T f := by
  obtain ⟨fs, hr, hrun, hended, hW, hsame⟩ := X.leave (v := v) hv hlk
  exact ⟨_, _, st fs hr, hrun, hended, v, locs, rfl, hq, ⟨_, rfl⟩, hW, hsame.mono hc hs⟩
theorem own_staKeep {Z : State} {h h' : Heap} {C n d : String} {v : Value} {ws : List Addr} (F : Sta Z h C n d v) (K : Keep h h' ws) (q : ∀ x ∈ ws, ∃ cell : Cell, h[x]? = some cell ∧ cell.vm.isStatics = false) : Sta Z h' C n d v := by
  obtain ⟨cf, i, k, f, st, cell, h1, h2, h3, h4, h5, h6, h7⟩ := F
  refine ⟨cf, i, k, f, st, cell, h1, h2, h3, h4, K.2.1 st cell h5 (fun z => ?_), h6, h7⟩
  obtain ⟨c', g1, g2⟩ := q st z
  rw [h5] at g1
  cases g1
  rw [h6] at g2
  cases g2
theorem own_exaNS {Z : State} {h : Heap} {a : Addr} {C : String} (F : Exa Z h a C) : ∃ cell : Cell, h[a]? = some cell ∧ cell.vm.isStatics = false := by
  obtain ⟨cell, k, h1, -, -, h4, -⟩ := F
  exact ⟨cell, h1, h4⟩
end Own
theorem own_selPriv {s : State} {args : Array Value} {C : String} {y y' : MethodName} (hs : (Jvm.Cond.selects C y' y').before args s = true) (e : y'.cls = y.cls) (hpriv : s.PrivateAt y)
    (hinst : (Jvm.Cond.instanceMethod y).before args s = true) (hy : y.cls ≠ "java/lang/invoke/MethodHandle" ∧ y.cls ≠ "java/lang/invoke/VarHandle") : (Jvm.Cond.selects y.cls y y).before args s = true := by
  obtain ⟨c2, r2, m2, -, -, q3, -, kP, hkP, hkPi⟩ := Cond.selects_spec hs
  exact selects_self_of_private (e ▸ findClass_of_methodNamed q3) hkP hkPi hpriv hinst hy
theorem d6_0 : decode jdk_30_method_1_code 0 = .ok (.aload_n 0, 1) := by decide +kernel
theorem d6_1 : decode jdk_30_method_1_code 1 = .ok (.invokespecial 1, 3) := by decide +kernel
theorem d6_4 : decode jdk_30_method_1_code 4 = .ok (.return_, 1) := by decide +kernel
theorem pn_0 : plainName "java/lang/Record" = true := by first | (simp [plainName, overriddenIn]; done) | decide +kernel
theorem ef_6 (m : MethodId) (x0 : Addr) : entryFrame m #[(.ref x0)] 1 = mkF m 0 #[.val (.ref x0)] [] := by first | (simp [entryFrame, mkF, argsToLocals, Value.category]; done) | rfl
def Q6 (Z : State) (a1 : Addr) (h0 : Heap) (n0 : Nat) (v : Option Value) (h : Heap) (L : List Loc) : Prop := v = none ∧ L = [] ∧ h = h0
abbrev R6 : Room := { frames := 1, cells := 0, slots := 0, locals := 12 }
set_option maxRecDepth 65536 in
set_option maxHeartbeats 40000000 in
theorem rm6 (l : Launch) (Z : State) (a0 : Array Value) (hw : ∀ d ∈ tables_1, d.before a0 Z = true) (ws : List Jvm.Cond) (a1 : Addr) (h0 : Heap) (n0 : Nat) (Z0 : n0 ≤ h0.size)  :
    MetFree l (⟨"java/lang/Record", "<init>", "()V"⟩ : MethodName) (head1 (Jvm.Cond.code (⟨"java/lang/Record", "<init>", "()V"⟩ : MethodName) jdk_30_method_1_code 1 none :: ws) R6) (fun a U => a = #[(.ref a1)] ∧ Z.Warmed39 U.vm ∧ U.heap = h0) (fun _ _ _ _ _ => True) (fun _ U o U' => ∃ v L, o = .returned v ∧ Q6 Z a1 h0 n0 v U'.heap L ∧ FrameEnd U o U' L R6.cells R6.slots) := by
  refine MetFree.of_bodySF (plainFor_of_name pn_0) hisR ?_
  intro p e s m args below meth c s₁ Bd hml0 hP hK
  obtain ⟨rfl, hZ, hh⟩ := hP
  have hx := Bd.exec
  have hby := Bd.bytes
  have hlk : meth.locks = false := BodyLoose.notSynchronized Bd
  have hml : c.maxLocals = 1 := hml0
  have hown : s.vm.findClass "java/lang/Record" = some m.cls := findClass_of_methodNamed Bd.named
  have hnm := (name_of_methodNamed Bd.named Bd.method).1
  have X0 : Stand p l e R6 s m #[(.ref a1)] below meth c s₁ [] 0 0 := Stand.of_body Bd
  have e0 : s₁.heap = h0 := by rw [← hh, Bd.state]; rfl
  have N0 := Fr.nil n0
  show own_Goes p e below s (Q6 Z a1 h0 n0) R6.cells R6.slots s₁ (entryFrame m #[(.ref a1)] 1)
  rw [ef_6 m a1]
  refine own_step (f' := (mkF m 1 #[.val (.ref a1)] [(.ref a1)])) (fun _ k => XS.aloadN X0.here hx rfl (hb hby d6_0) rfl rfl k) ?_
  obtain ⟨T1, X1, e1, st1⟩ := initO X0 hx hZ hown (hw _ (List.mem_of_getElem? (i := 37) rfl)) (hw _ (List.mem_of_getElem? (i := 22) rfl)) (hw _ (List.mem_of_getElem? (i := 23) rfl)) e0 (g := (mkF m 1 #[.val (.ref a1)] [(.ref a1)])) rfl (by rw [hml]; rfl) rfl (hb hby d6_1) (by decide) (W := 0) (by show 2 * 0 + _ ≤ _; exact Nat.le_of_eq rfl) (by decide)
  refine own_step (f' := (mkF m 4 #[.val (.ref a1)] [])) st1 ?_
  refine own_out (v := none) X1 hlk (fun _ => rfl) (fun fs hr => X1.returnOut hx Bd.returns (hb hby d6_4) hr) (by decide) (by decide) ?_
  rw [e1]
  exact ⟨rfl, rfl, rfl⟩
theorem d3_0 : decode jdk_22_method_1_code 0 = .ok (.aload_n 0, 1) := by decide +kernel
theorem d3_1 : decode jdk_22_method_1_code 1 = .ok (.invokespecial 1, 3) := by decide +kernel
theorem d3_4 : decode jdk_22_method_1_code 4 = .ok (.return_, 1) := by decide +kernel
theorem pn_1 : plainName "java/util/AbstractCollection" = true := by first | (simp [plainName, overriddenIn]; done) | decide +kernel
theorem ef_3 (m : MethodId) (x0 : Addr) : entryFrame m #[(.ref x0)] 1 = mkF m 0 #[.val (.ref x0)] [] := by first | (simp [entryFrame, mkF, argsToLocals, Value.category]; done) | rfl
def Q3 (Z : State) (a1 : Addr) (h0 : Heap) (n0 : Nat) (v : Option Value) (h : Heap) (L : List Loc) : Prop := v = none ∧ L = [] ∧ h = h0
abbrev R3 : Room := { frames := 1, cells := 0, slots := 0, locals := 12 }
set_option maxRecDepth 65536 in
set_option maxHeartbeats 40000000 in
theorem rm3 (l : Launch) (Z : State) (a0 : Array Value) (hw : ∀ d ∈ tables_1, d.before a0 Z = true) (ws : List Jvm.Cond) (a1 : Addr) (h0 : Heap) (n0 : Nat) (Z0 : n0 ≤ h0.size)  :
    MetFree l (⟨"java/util/AbstractCollection", "<init>", "()V"⟩ : MethodName) (head1 (Jvm.Cond.code (⟨"java/util/AbstractCollection", "<init>", "()V"⟩ : MethodName) jdk_22_method_1_code 1 none :: ws) R3) (fun a U => a = #[(.ref a1)] ∧ Z.Warmed39 U.vm ∧ U.heap = h0) (fun _ _ _ _ _ => True) (fun _ U o U' => ∃ v L, o = .returned v ∧ Q3 Z a1 h0 n0 v U'.heap L ∧ FrameEnd U o U' L R3.cells R3.slots) := by
  refine MetFree.of_bodySF (plainFor_of_name pn_1) hisR ?_
  intro p e s m args below meth c s₁ Bd hml0 hP hK
  obtain ⟨rfl, hZ, hh⟩ := hP
  have hx := Bd.exec
  have hby := Bd.bytes
  have hlk : meth.locks = false := BodyLoose.notSynchronized Bd
  have hml : c.maxLocals = 1 := hml0
  have hown : s.vm.findClass "java/util/AbstractCollection" = some m.cls := findClass_of_methodNamed Bd.named
  have hnm := (name_of_methodNamed Bd.named Bd.method).1
  have X0 : Stand p l e R3 s m #[(.ref a1)] below meth c s₁ [] 0 0 := Stand.of_body Bd
  have e0 : s₁.heap = h0 := by rw [← hh, Bd.state]; rfl
  have N0 := Fr.nil n0
  show own_Goes p e below s (Q3 Z a1 h0 n0) R3.cells R3.slots s₁ (entryFrame m #[(.ref a1)] 1)
  rw [ef_3 m a1]
  refine own_step (f' := (mkF m 1 #[.val (.ref a1)] [(.ref a1)])) (fun _ k => XS.aloadN X0.here hx rfl (hb hby d3_0) rfl rfl k) ?_
  obtain ⟨T1, X1, e1, st1⟩ := initO X0 hx hZ hown (hw _ (List.mem_of_getElem? (i := 21) rfl)) (hw _ (List.mem_of_getElem? (i := 22) rfl)) (hw _ (List.mem_of_getElem? (i := 23) rfl)) e0 (g := (mkF m 1 #[.val (.ref a1)] [(.ref a1)])) rfl (by rw [hml]; rfl) rfl (hb hby d3_1) (by decide) (W := 0) (by show 2 * 0 + _ ≤ _; exact Nat.le_of_eq rfl) (by decide)
  refine own_step (f' := (mkF m 4 #[.val (.ref a1)] [])) st1 ?_
  refine own_out (v := none) X1 hlk (fun _ => rfl) (fun fs hr => X1.returnOut hx Bd.returns (hb hby d3_4) hr) (by decide) (by decide) ?_
  rw [e1]
  exact ⟨rfl, rfl, rfl⟩
theorem pd_0 : parseMethodDescriptor "()V" = some ⟨[], none⟩ := by decide +kernel
theorem d2_0 : decode jdk_39_method_1_code 0 = .ok (.aload_n 0, 1) := by decide +kernel
theorem d2_1 : decode jdk_39_method_1_code 1 = .ok (.invokespecial 1, 3) := by decide +kernel
theorem d2_4 : decode jdk_39_method_1_code 4 = .ok (.aload_n 0, 1) := by decide +kernel
theorem d2_5 : decode jdk_39_method_1_code 5 = .ok (.iconst 0, 1) := by decide +kernel
theorem d2_6 : decode jdk_39_method_1_code 6 = .ok (.putfield 7, 3) := by decide +kernel
theorem d2_9 : decode jdk_39_method_1_code 9 = .ok (.return_, 1) := by decide +kernel
theorem pn_2 : plainName "java/util/AbstractList" = true := by first | (simp [plainName, overriddenIn]; done) | decide +kernel
theorem ef_2 (m : MethodId) (x0 : Addr) : entryFrame m #[(.ref x0)] 1 = mkF m 0 #[.val (.ref x0)] [] := by first | (simp [entryFrame, mkF, argsToLocals, Value.category]; done) | rfl
def Q2 (Z : State) (a1 : Addr) (u1 : Value) (u2 : Value) (h0 : Heap) (n0 : Nat) (v : Option Value) (h : Heap) (L : List Loc) : Prop := v = none ∧ Fr n0 L ∧ Keep h0 h [a1] ∧ Exa Z h a1 "java/util/ArrayList" ∧ Fld Z h a1 "java/util/AbstractList" "modCount" "I" (.int (0 : Int32)) ∧ Fld Z h a1 "java/util/ArrayList" "elementData" "[Ljava/lang/Object;" u2
abbrev R2 : Room := { frames := 2, cells := 0, slots := 0, locals := 24 }
set_option maxRecDepth 65536 in
set_option maxHeartbeats 40000000 in
theorem rm2 (l : Launch) (Z : State) (a0 : Array Value) (hw : ∀ d ∈ tables_1, d.before a0 Z = true) (ws : List Jvm.Cond) (a1 : Addr) (u1 : Value) (u2 : Value) (h0 : Heap) (n0 : Nat) (Z0 : n0 ≤ h0.size) (E_a1 : Exa Z h0 a1 "java/util/ArrayList") (F_modCount_a1 : Fld Z h0 a1 "java/util/AbstractList" "modCount" "I" u1) (g_a1 : n0 ≤ a1) (F_elementData_a1 : Fld Z h0 a1 "java/util/ArrayList" "elementData" "[Ljava/lang/Object;" u2) :
    MetFree l (⟨"java/util/AbstractList", "<init>", "()V"⟩ : MethodName) (head1 (Jvm.Cond.code (⟨"java/util/AbstractList", "<init>", "()V"⟩ : MethodName) jdk_39_method_1_code 1 none :: ws) R2) (fun a U => a = #[(.ref a1)] ∧ Z.Warmed39 U.vm ∧ U.heap = h0) (fun _ _ _ _ _ => True) (fun _ U o U' => ∃ v L, o = .returned v ∧ Q2 Z a1 u1 u2 h0 n0 v U'.heap L ∧ FrameEnd U o U' L R2.cells R2.slots) := by
  refine MetFree.of_bodySF (plainFor_of_name pn_2) hisR ?_
  intro p e s m args below meth c s₁ Bd hml0 hP hK
  obtain ⟨rfl, hZ, hh⟩ := hP
  have hx := Bd.exec
  have hby := Bd.bytes
  have hlk : meth.locks = false := BodyLoose.notSynchronized Bd
  have hml : c.maxLocals = 1 := hml0
  have hown : s.vm.findClass "java/util/AbstractList" = some m.cls := findClass_of_methodNamed Bd.named
  have hnm := (name_of_methodNamed Bd.named Bd.method).1
  have X0 : Stand p l e R2 s m #[(.ref a1)] below meth c s₁ [] 0 0 := Stand.of_body Bd
  have e0 : s₁.heap = h0 := by rw [← hh, Bd.state]; rfl
  have N0 := Fr.nil n0
  show own_Goes p e below s (Q2 Z a1 u1 u2 h0 n0) R2.cells R2.slots s₁ (entryFrame m #[(.ref a1)] 1)
  rw [ef_2 m a1]
  refine own_step (f' := (mkF m 1 #[.val (.ref a1)] [(.ref a1)])) (fun _ k => XS.aloadN X0.here hx rfl (hb hby d2_0) rfl rfl k) ?_
  have Zq1 : n0 ≤ h0.size := Z0
  obtain ⟨_, _, ⟨T1, L1, k1, n1⟩, -, X1, ⟨Lc1, hQ1, l1, y1, z1⟩, st1⟩ := X0.specialBack hx (y := (⟨"java/util/AbstractCollection", "<init>", "()V"⟩ : MethodName)) rfl hown (mvT hZ (hw _ (List.mem_of_getElem? (i := 15) rfl))) (mvT hZ (hw _ (List.mem_of_getElem? (i := 16) rfl))) (mvT hZ (hw _ (List.mem_of_getElem? (i := 20) rfl))) (by decide) (backOf (W := 0) (rm3 l Z a0 hw [] a1 h0 n0 Zq1 ) hZ (hw _ (List.mem_of_getElem? (i := 20) rfl)) (hw _ (List.mem_of_getElem? (i := 19) rfl)) (by decide) (by decide)) (g := (mkF m 1 #[.val (.ref a1)] [(.ref a1)])) rfl (by rw [hml]; rfl) (Steps.refl _) (a := a1) (argsL := []) (rest := []) (lenOf pd_0 rfl) rfl (by show 2 * 0 + _ ≤ _; exact Nat.le_of_eq rfl) (hb hby d2_1) (fun _ _ => ⟨rfl, e0, (by decide : 0 + 0 ≤ _), (by decide : 0 + 0 ≤ _)⟩)
  dsimp only [Pt.U, Pt.locs, Pt.cells, Pt.slots] at X1 l1 y1 z1 st1 hQ1
  subst l1 y1 z1
  obtain ⟨rfl, rfl, e1⟩ := hQ1
  try rw [List.append_nil] at X1
  refine own_jump (f' := (mkF m 4 #[.val (.ref a1)] [])) st1 ?_
  refine own_step (f' := (mkF m 5 #[.val (.ref a1)] [(.ref a1)])) (fun _ k => XS.aloadN X1.here hx rfl (hb hby d2_4) rfl rfl k) ?_
  refine own_step (f' := (mkF m 6 #[.val (.ref a1)] [(.int (0 : Int32)), (.ref a1)])) (fun _ k => XS.iconst X1.here hx rfl (hb hby d2_5) k) ?_
  obtain ⟨T2, h2, X2, e2, W2, st2⟩ := putF X1 hx hZ hown (host := "") (Or.inl (hw _ (List.mem_of_getElem? (i := 24) rfl))) Via.refl e1 F_modCount_a1 E_a1 (Or.inl (hw _ (List.mem_of_getElem? (i := 25) rfl))) (hw _ (List.mem_of_getElem? (i := 4) rfl)) (ty := .int) (by decide) rfl rfl (g := (mkF m 6 #[.val (.ref a1)] [(.int (0 : Int32)), (.ref a1)])) rfl rfl (hb hby d2_6)
  obtain ⟨Lo2, X2, N2⟩ : ∃ K, Stand p l e R2 s m #[(.ref a1)] below meth c T2 K 0 0 ∧ Fr n0 K := ⟨_, X2, (Fr.snoc X2 N0 g_a1)⟩
  refine own_step (f' := (mkF m 9 #[.val (.ref a1)] [])) st2 ?_
  refine own_out (v := none) X2 hlk (fun _ => rfl) (fun fs hr => X2.returnOut hx Bd.returns (hb hby d2_9) hr) (by decide) (by decide) ?_
  rw [e2]
  exact ⟨rfl, N2, ((Keep.refl h0 [a1]).wr W2 (Or.inl (List.mem_of_getElem? (i := 0) rfl))), (E_a1.wr W2), (F_modCount_a1.same W2), (F_elementData_a1.other W2 (Or.inr (slot_ne (Or.inl (hw _ (List.mem_of_getElem? (i := 28) rfl))) (Or.inl (hw _ (List.mem_of_getElem? (i := 25) rfl))) (by decide) (t := (.array (.object "java/lang/Object"))) (t' := .int) (by decide) (by decide))))⟩
theorem d1_0 : decode jdk_38_method_2_code 0 = .ok (.aload_n 0, 1) := by decide +kernel
theorem d1_1 : decode jdk_38_method_2_code 1 = .ok (.invokespecial 1, 3) := by decide +kernel
theorem d1_4 : decode jdk_38_method_2_code 4 = .ok (.aload_n 0, 1) := by decide +kernel
theorem d1_5 : decode jdk_38_method_2_code 5 = .ok (.getstatic 39, 3) := by decide +kernel
theorem d1_8 : decode jdk_38_method_2_code 8 = .ok (.putfield 9, 3) := by decide +kernel
theorem d1_11 : decode jdk_38_method_2_code 11 = .ok (.return_, 1) := by decide +kernel
theorem pn_3 : plainName "java/util/ArrayList" = true := by first | (simp [plainName, overriddenIn]; done) | decide +kernel
theorem ef_1 (m : MethodId) (x0 : Addr) : entryFrame m #[(.ref x0)] 1 = mkF m 0 #[.val (.ref x0)] [] := by first | (simp [entryFrame, mkF, argsToLocals, Value.category]; done) | rfl
def Q1 (Z : State) (a1 : Addr) (u1 : Value) (u2 : Value) (w1 : Addr) (h0 : Heap) (n0 : Nat) (v : Option Value) (h : Heap) (L : List Loc) : Prop := v = none ∧ Fr n0 L ∧ Keep h0 h [a1] ∧ Exa Z h a1 "java/util/ArrayList" ∧ Fld Z h a1 "java/util/AbstractList" "modCount" "I" (.int (0 : Int32)) ∧ Fld Z h a1 "java/util/ArrayList" "elementData" "[Ljava/lang/Object;" (.ref w1)
abbrev R1 : Room := { frames := 3, cells := 0, slots := 0, locals := 36 }
set_option maxRecDepth 65536 in
set_option maxHeartbeats 40000000 in
theorem rm1 (l : Launch) (Z : State) (a0 : Array Value) (hw : ∀ d ∈ tables_1, d.before a0 Z = true) (ws : List Jvm.Cond) (a1 : Addr) (u1 : Value) (u2 : Value) (w1 : Addr) (h0 : Heap) (n0 : Nat) (Z0 : n0 ≤ h0.size) (E_a1 : Exa Z h0 a1 "java/util/ArrayList") (F_modCount_a1 : Fld Z h0 a1 "java/util/AbstractList" "modCount" "I" u1) (g_a1 : n0 ≤ a1) (S_DEFAULTCAPACITY_EMPTY_ELEMENTDATA : Sta Z h0 "java/util/ArrayList" "DEFAULTCAPACITY_EMPTY_ELEMENTDATA" "[Ljava/lang/Object;" (.ref w1)) (F_elementData_a1 : Fld Z h0 a1 "java/util/ArrayList" "elementData" "[Ljava/lang/Object;" u2) :
    MetFree l (⟨"java/util/ArrayList", "<init>", "()V"⟩ : MethodName) (head1 (Jvm.Cond.code (⟨"java/util/ArrayList", "<init>", "()V"⟩ : MethodName) jdk_38_method_2_code 1 none :: ws) R1) (fun a U => a = #[(.ref a1)] ∧ Z.Warmed39 U.vm ∧ U.heap = h0) (fun _ _ _ _ _ => True) (fun _ U o U' => ∃ v L, o = .returned v ∧ Q1 Z a1 u1 u2 w1 h0 n0 v U'.heap L ∧ FrameEnd U o U' L R1.cells R1.slots) := by
  refine MetFree.of_bodySF (plainFor_of_name pn_3) hisR ?_
  intro p e s m args below meth c s₁ Bd hml0 hP hK
  obtain ⟨rfl, hZ, hh⟩ := hP
  have hx := Bd.exec
  have hby := Bd.bytes
  have hlk : meth.locks = false := BodyLoose.notSynchronized Bd
  have hml : c.maxLocals = 1 := hml0
  have hown : s.vm.findClass "java/util/ArrayList" = some m.cls := findClass_of_methodNamed Bd.named
  have hnm := (name_of_methodNamed Bd.named Bd.method).1
  have X0 : Stand p l e R1 s m #[(.ref a1)] below meth c s₁ [] 0 0 := Stand.of_body Bd
  have e0 : s₁.heap = h0 := by rw [← hh, Bd.state]; rfl
  have N0 := Fr.nil n0
  show own_Goes p e below s (Q1 Z a1 u1 u2 w1 h0 n0) R1.cells R1.slots s₁ (entryFrame m #[(.ref a1)] 1)
  rw [ef_1 m a1]
  refine own_step (f' := (mkF m 1 #[.val (.ref a1)] [(.ref a1)])) (fun _ k => XS.aloadN X0.here hx rfl (hb hby d1_0) rfl rfl k) ?_
  have Zq1 : n0 ≤ h0.size := Z0
  obtain ⟨_, _, ⟨T1, L1, k1, n1⟩, -, X1, ⟨Lc1, hQ1, l1, y1, z1⟩, st1⟩ := X0.specialBack hx (y := (⟨"java/util/AbstractList", "<init>", "()V"⟩ : MethodName)) rfl hown (mvT hZ (hw _ (List.mem_of_getElem? (i := 9) rfl))) (mvT hZ (hw _ (List.mem_of_getElem? (i := 10) rfl))) (mvT hZ (hw _ (List.mem_of_getElem? (i := 14) rfl))) (by decide) (backOf (W := 0) (rm2 l Z a0 hw [] a1 u1 u2 h0 n0 Zq1 E_a1 F_modCount_a1 g_a1 F_elementData_a1) hZ (hw _ (List.mem_of_getElem? (i := 14) rfl)) (hw _ (List.mem_of_getElem? (i := 13) rfl)) (by decide) (by decide)) (g := (mkF m 1 #[.val (.ref a1)] [(.ref a1)])) rfl (by rw [hml]; rfl) (Steps.refl _) (a := a1) (argsL := []) (rest := []) (lenOf pd_0 rfl) rfl (by show 2 * 0 + _ ≤ _; exact Nat.le_of_eq rfl) (hb hby d1_1) (fun _ _ => ⟨rfl, e0, (by decide : 0 + 0 ≤ _), (by decide : 0 + 0 ≤ _)⟩)
  dsimp only [Pt.U, Pt.locs, Pt.cells, Pt.slots] at X1 l1 y1 z1 st1 hQ1
  subst l1 y1 z1
  obtain ⟨rfl, Nq1, K1, P1_0, P1_1, P1_2⟩ := hQ1
  obtain ⟨Lo1, X1, N1⟩ : ∃ K, Stand p l e R1 s m #[(.ref a1)] below meth c T1 K 0 0 ∧ Fr n0 K := ⟨_, X1, (Fr.app N0 Nq1)⟩
  refine own_jump (f' := (mkF m 4 #[.val (.ref a1)] [])) st1 ?_
  refine own_step (f' := (mkF m 5 #[.val (.ref a1)] [(.ref a1)])) (fun _ k => XS.aloadN X1.here hx rfl (hb hby d1_4) rfl rfl k) ?_
  obtain ⟨T2, X2, e2, st2⟩ := getS2 X1 hx hZ hown (host := "") (Or.inl (hw _ (List.mem_of_getElem? (i := 26) rfl))) Via.refl rfl (own_staKeep S_DEFAULTCAPACITY_EMPTY_ELEMENTDATA K1 (allS (own_exaNS E_a1) all0)) (g := (mkF m 5 #[.val (.ref a1)] [(.ref a1)])) rfl (hb hby d1_5)
  refine own_step (f' := (mkF m 8 #[.val (.ref a1)] [(.ref w1), (.ref a1)])) st2 ?_
  obtain ⟨T3, h3, X3, e3, W3, st3⟩ := putF X2 hx hZ hown (host := "") (Or.inl (hw _ (List.mem_of_getElem? (i := 27) rfl))) Via.refl e2 P1_2 P1_0 (Or.inl (hw _ (List.mem_of_getElem? (i := 28) rfl))) (hw _ (List.mem_of_getElem? (i := 4) rfl)) (ty := (.array (.object "java/lang/Object"))) (by decide) rfl rfl (g := (mkF m 8 #[.val (.ref a1)] [(.ref w1), (.ref a1)])) rfl rfl (hb hby d1_8)
  obtain ⟨Lo3, X3, N3⟩ : ∃ K, Stand p l e R1 s m #[(.ref a1)] below meth c T3 K 0 0 ∧ Fr n0 K := ⟨_, X3, (Fr.snoc X3 N1 g_a1)⟩
  refine own_step (f' := (mkF m 11 #[.val (.ref a1)] [])) st3 ?_
  refine own_out (v := none) X3 hlk (fun _ => rfl) (fun fs hr => X3.returnOut hx Bd.returns (hb hby d1_11) hr) (by decide) (by decide) ?_
  rw [e3]
  exact ⟨rfl, N3, (((Keep.refl h0 [a1]).trans K1 (allS (Or.inl (List.mem_of_getElem? (i := 0) rfl)) all0)).wr W3 (Or.inl (List.mem_of_getElem? (i := 0) rfl))), (P1_0.wr W3), (P1_1.other W3 (Or.inr (slot_ne (Or.inl (hw _ (List.mem_of_getElem? (i := 25) rfl))) (Or.inl (hw _ (List.mem_of_getElem? (i := 28) rfl))) (by decide) (t := .int) (t' := (.array (.object "java/lang/Object"))) (by decide) (by decide)))), (P1_2.same W3)⟩
theorem d5_0 : decode prog_135_method_1_code 0 = .ok (.aload_n 0, 1) := by decide +kernel
theorem d5_1 : decode prog_135_method_1_code 1 = .ok (.invokespecial 1, 3) := by decide +kernel
theorem d5_4 : decode prog_135_method_1_code 4 = .ok (.aload_n 0, 1) := by decide +kernel
theorem d5_5 : decode prog_135_method_1_code 5 = .ok (.aload_n 1, 1) := by decide +kernel
theorem d5_6 : decode prog_135_method_1_code 6 = .ok (.putfield 7, 3) := by decide +kernel
theorem d5_9 : decode prog_135_method_1_code 9 = .ok (.aload_n 0, 1) := by decide +kernel
theorem d5_10 : decode prog_135_method_1_code 10 = .ok (.iload_n 2, 1) := by decide +kernel
theorem d5_11 : decode prog_135_method_1_code 11 = .ok (.putfield 13, 3) := by decide +kernel
theorem d5_14 : decode prog_135_method_1_code 14 = .ok (.return_, 1) := by decide +kernel
theorem pn_4 : plainName "wayfarer/process/RepeatStep$Condition" = true := by first | (simp [plainName, overriddenIn]; done) | decide +kernel
theorem ef_5 (m : MethodId) (x0 : Addr) (x1 : Addr) (x2 : Int32) : entryFrame m #[(.ref x0), (.ref x1), (.int x2)] 3 = mkF m 0 #[.val (.ref x0), .val (.ref x1), .val (.int x2)] [] := by first | (simp [entryFrame, mkF, argsToLocals, Value.category]; done) | rfl
def Q5 (Z : State) (a1 : Addr) (a2 : Addr) (p3 : Int32) (u1 : Value) (u2 : Value) (h0 : Heap) (n0 : Nat) (v : Option Value) (h : Heap) (L : List Loc) : Prop := v = none ∧ Fr n0 L ∧ Keep h0 h [a1] ∧ Exa Z h a1 "wayfarer/process/RepeatStep$Condition"
abbrev R5 : Room := { frames := 2, cells := 0, slots := 0, locals := 24 }
set_option maxRecDepth 65536 in
set_option maxHeartbeats 40000000 in
theorem rm5 (l : Launch) (Z : State) (a0 : Array Value) (hw : ∀ d ∈ tables_1, d.before a0 Z = true) (ws : List Jvm.Cond) (a1 : Addr) (a2 : Addr) (p3 : Int32) (u1 : Value) (u2 : Value) (h0 : Heap) (n0 : Nat) (Z0 : n0 ≤ h0.size) (E_a1 : Exa Z h0 a1 "wayfarer/process/RepeatStep$Condition") (F_steps_a1 : Fld Z h0 a1 "wayfarer/process/RepeatStep$Condition" "steps" "Ljava/util/List;" u1) (F_ahead_a1 : Fld Z h0 a1 "wayfarer/process/RepeatStep$Condition" "ahead" "Z" u2) (g_a1 : n0 ≤ a1) :
    MetFree l (⟨"wayfarer/process/RepeatStep$Condition", "<init>", "(Ljava/util/List;Z)V"⟩ : MethodName) (head1 (Jvm.Cond.code (⟨"wayfarer/process/RepeatStep$Condition", "<init>", "(Ljava/util/List;Z)V"⟩ : MethodName) prog_135_method_1_code 3 none :: ws) R5) (fun a U => a = #[(.ref a1), (.ref a2), (.int p3)] ∧ Z.Warmed39 U.vm ∧ U.heap = h0) (fun _ _ _ _ _ => True) (fun _ U o U' => ∃ v L, o = .returned v ∧ Q5 Z a1 a2 p3 u1 u2 h0 n0 v U'.heap L ∧ FrameEnd U o U' L R5.cells R5.slots) := by
  refine MetFree.of_bodySF (plainFor_of_name pn_4) hisR ?_
  intro p e s m args below meth c s₁ Bd hml0 hP hK
  obtain ⟨rfl, hZ, hh⟩ := hP
  have hx := Bd.exec
  have hby := Bd.bytes
  have hlk : meth.locks = false := BodyLoose.notSynchronized Bd
  have hml : c.maxLocals = 3 := hml0
  have hown : s.vm.findClass "wayfarer/process/RepeatStep$Condition" = some m.cls := findClass_of_methodNamed Bd.named
  have hnm := (name_of_methodNamed Bd.named Bd.method).1
  have X0 : Stand p l e R5 s m #[(.ref a1), (.ref a2), (.int p3)] below meth c s₁ [] 0 0 := Stand.of_body Bd
  have e0 : s₁.heap = h0 := by rw [← hh, Bd.state]; rfl
  have N0 := Fr.nil n0
  show own_Goes p e below s (Q5 Z a1 a2 p3 u1 u2 h0 n0) R5.cells R5.slots s₁ (entryFrame m #[(.ref a1), (.ref a2), (.int p3)] 3)
  rw [ef_5 m a1 a2 p3]
  refine own_step (f' := (mkF m 1 #[.val (.ref a1), .val (.ref a2), .val (.int p3)] [(.ref a1)])) (fun _ k => XS.aloadN X0.here hx rfl (hb hby d5_0) rfl rfl k) ?_
  have Zq1 : n0 ≤ h0.size := Z0
  obtain ⟨_, _, ⟨T1, L1, k1, n1⟩, -, X1, ⟨Lc1, hQ1, l1, y1, z1⟩, st1⟩ := X0.specialBack hx (y := (⟨"java/lang/Record", "<init>", "()V"⟩ : MethodName)) rfl hown (mvT hZ (hw _ (List.mem_of_getElem? (i := 32) rfl))) (mvT hZ (hw _ (List.mem_of_getElem? (i := 33) rfl))) (mvT hZ (hw _ (List.mem_of_getElem? (i := 36) rfl))) (by decide) (backOf (W := 0) (rm6 l Z a0 hw [] a1 h0 n0 Zq1 ) hZ (hw _ (List.mem_of_getElem? (i := 36) rfl)) (hw _ (List.mem_of_getElem? (i := 35) rfl)) (by decide) (by decide)) (g := (mkF m 1 #[.val (.ref a1), .val (.ref a2), .val (.int p3)] [(.ref a1)])) rfl (by rw [hml]; rfl) (Steps.refl _) (a := a1) (argsL := []) (rest := []) (lenOf pd_0 rfl) rfl (by show 2 * 0 + _ ≤ _; exact Nat.le_of_eq rfl) (hb hby d5_1) (fun _ _ => ⟨rfl, e0, (by decide : 0 + 0 ≤ _), (by decide : 0 + 0 ≤ _)⟩)
  dsimp only [Pt.U, Pt.locs, Pt.cells, Pt.slots] at X1 l1 y1 z1 st1 hQ1
  subst l1 y1 z1
  obtain ⟨rfl, rfl, e1⟩ := hQ1
  try rw [List.append_nil] at X1
  refine own_jump (f' := (mkF m 4 #[.val (.ref a1), .val (.ref a2), .val (.int p3)] [])) st1 ?_
  refine own_step (f' := (mkF m 5 #[.val (.ref a1), .val (.ref a2), .val (.int p3)] [(.ref a1)])) (fun _ k => XS.aloadN X1.here hx rfl (hb hby d5_4) rfl rfl k) ?_
  refine own_step (f' := (mkF m 6 #[.val (.ref a1), .val (.ref a2), .val (.int p3)] [(.ref a2), (.ref a1)])) (fun _ k => XS.aloadN X1.here hx rfl (hb hby d5_5) rfl rfl k) ?_
  obtain ⟨T2, h2, X2, e2, W2, st2⟩ := putF X1 hx hZ hown (host := "") (Or.inl (hw _ (List.mem_of_getElem? (i := 38) rfl))) Via.refl e1 F_steps_a1 E_a1 (Or.inr ⟨(hw _ (List.mem_of_getElem? (i := 39) rfl)), rfl, hnm⟩) (hw _ (List.mem_of_getElem? (i := 1) rfl)) (ty := (.object "java/util/List")) (by decide) rfl rfl (g := (mkF m 6 #[.val (.ref a1), .val (.ref a2), .val (.int p3)] [(.ref a2), (.ref a1)])) rfl rfl (hb hby d5_6)
  obtain ⟨Lo2, X2, N2⟩ : ∃ K, Stand p l e R5 s m #[(.ref a1), (.ref a2), (.int p3)] below meth c T2 K 0 0 ∧ Fr n0 K := ⟨_, X2, (Fr.snoc X2 N0 g_a1)⟩
  refine own_step (f' := (mkF m 9 #[.val (.ref a1), .val (.ref a2), .val (.int p3)] [])) st2 ?_
  refine own_step (f' := (mkF m 10 #[.val (.ref a1), .val (.ref a2), .val (.int p3)] [(.ref a1)])) (fun _ k => XS.aloadN X2.here hx rfl (hb hby d5_9) rfl rfl k) ?_
  refine own_step (f' := (mkF m 11 #[.val (.ref a1), .val (.ref a2), .val (.int p3)] [(.int p3), (.ref a1)])) (fun _ k => XS.iloadN X2.here hx rfl (hb hby d5_10) rfl k) ?_
  obtain ⟨T3, h3, X3, e3, W3, st3⟩ := putFN X2 hx hZ hown (hw _ (List.mem_of_getElem? (i := 40) rfl)) Via.refl e2 (F_ahead_a1.other W2 (Or.inr (slot_ne (Or.inr (hw _ (List.mem_of_getElem? (i := 41) rfl))) (Or.inr (hw _ (List.mem_of_getElem? (i := 39) rfl))) (by decide) (t := .boolean) (t' := (.object "java/util/List")) (by decide) (by decide)))) (E_a1.wr W2) (Or.inr ⟨(hw _ (List.mem_of_getElem? (i := 41) rfl)), rfl, hnm⟩) (hw _ (List.mem_of_getElem? (i := 1) rfl)) (ty := .boolean) (v' := (.int (nar .boolean p3))) (by decide) rfl (fits_nar_bool _) (g := (mkF m 11 #[.val (.ref a1), .val (.ref a2), .val (.int p3)] [(.int p3), (.ref a1)])) rfl rfl (hb hby d5_11)
  obtain ⟨Lo3, X3, N3⟩ : ∃ K, Stand p l e R5 s m #[(.ref a1), (.ref a2), (.int p3)] below meth c T3 K 0 0 ∧ Fr n0 K := ⟨_, X3, (Fr.snoc X3 N2 g_a1)⟩
  refine own_step (f' := (mkF m 14 #[.val (.ref a1), .val (.ref a2), .val (.int p3)] [])) st3 ?_
  refine own_out (v := none) X3 hlk (fun _ => rfl) (fun fs hr => X3.returnOut hx Bd.returns (hb hby d5_14) hr) (by decide) (by decide) ?_
  rw [e3]
  exact ⟨rfl, N3, (((Keep.refl h0 [a1]).wr W2 (Or.inl (List.mem_of_getElem? (i := 0) rfl))).wr W3 (Or.inl (List.mem_of_getElem? (i := 0) rfl))), ((E_a1.wr W2).wr W3)⟩
theorem d7_0 : decode prog_134_method_1_code 0 = .ok (.aload_n 0, 1) := by decide +kernel
theorem d7_1 : decode prog_134_method_1_code 1 = .ok (.invokespecial 1, 3) := by decide +kernel
theorem d7_4 : decode prog_134_method_1_code 4 = .ok (.aload_n 0, 1) := by decide +kernel
theorem d7_5 : decode prog_134_method_1_code 5 = .ok (.aload_n 1, 1) := by decide +kernel
theorem d7_6 : decode prog_134_method_1_code 6 = .ok (.putfield 7, 3) := by decide +kernel
theorem d7_9 : decode prog_134_method_1_code 9 = .ok (.aload_n 0, 1) := by decide +kernel
theorem d7_10 : decode prog_134_method_1_code 10 = .ok (.iload_n 2, 1) := by decide +kernel
theorem d7_11 : decode prog_134_method_1_code 11 = .ok (.putfield 13, 3) := by decide +kernel
theorem d7_14 : decode prog_134_method_1_code 14 = .ok (.aload_n 0, 1) := by decide +kernel
theorem d7_15 : decode prog_134_method_1_code 15 = .ok (.aload_n 3, 1) := by decide +kernel
theorem d7_16 : decode prog_134_method_1_code 16 = .ok (.putfield 17, 3) := by decide +kernel
theorem d7_19 : decode prog_134_method_1_code 19 = .ok (.aload_n 0, 1) := by decide +kernel
theorem d7_20 : decode prog_134_method_1_code 20 = .ok (.aload 4, 2) := by decide +kernel
theorem d7_22 : decode prog_134_method_1_code 22 = .ok (.putfield 21, 3) := by decide +kernel
theorem d7_25 : decode prog_134_method_1_code 25 = .ok (.return_, 1) := by decide +kernel
theorem pn_5 : plainName "wayfarer/process/RepeatStep" = true := by first | (simp [plainName, overriddenIn]; done) | decide +kernel
theorem ef_7nn (m : MethodId) (x0 : Addr) (x1 : Addr) (x2 : Int32) : entryFrame m #[(.ref x0), (.ref x1), (.int x2), .null, .null] 5 = mkF m 0 #[.val (.ref x0), .val (.ref x1), .val (.int x2), .val .null, .val .null] [] := by first | (simp [entryFrame, mkF, argsToLocals, Value.category]; done) | rfl
def Q7nn (Z : State) (a1 : Addr) (a2 : Addr) (p3 : Int32) (u0 : Value) (u1 : Value) (u2 : Value) (u3 : Value) (h0 : Heap) (n0 : Nat) (v : Option Value) (h : Heap) (L : List Loc) : Prop := v = none ∧ Fr n0 L ∧ Keep h0 h [a1] ∧ Exa Z h a1 "wayfarer/process/RepeatStep" ∧ Fld Z h a1 "wayfarer/process/RepeatStep" "body" "Ljava/util/List;" (.ref a2) ∧ Fld Z h a1 "wayfarer/process/RepeatStep" "times" "I" (.int p3) ∧ Fld Z h a1 "wayfarer/process/RepeatStep" "until" "Lwayfarer/process/RepeatStep$Condition;" .null ∧ Fld Z h a1 "wayfarer/process/RepeatStep" "emit" "Lwayfarer/process/RepeatStep$Condition;" .null
abbrev R7nn : Room := { frames := 2, cells := 0, slots := 0, locals := 24 }
set_option maxRecDepth 65536 in
set_option maxHeartbeats 40000000 in
theorem rm7nn (l : Launch) (Z : State) (a0 : Array Value) (hw : ∀ d ∈ tables_1, d.before a0 Z = true) (ws : List Jvm.Cond) (a1 : Addr) (a2 : Addr) (p3 : Int32) (u0 : Value) (u1 : Value) (u2 : Value) (u3 : Value) (h0 : Heap) (n0 : Nat) (Z0 : n0 ≤ h0.size) (E_a1 : Exa Z h0 a1 "wayfarer/process/RepeatStep") (F_body_a1 : Fld Z h0 a1 "wayfarer/process/RepeatStep" "body" "Ljava/util/List;" u0) (F_times_a1 : Fld Z h0 a1 "wayfarer/process/RepeatStep" "times" "I" u1) (F_until_a1 : Fld Z h0 a1 "wayfarer/process/RepeatStep" "until" "Lwayfarer/process/RepeatStep$Condition;" u2) (F_emit_a1 : Fld Z h0 a1 "wayfarer/process/RepeatStep" "emit" "Lwayfarer/process/RepeatStep$Condition;" u3) (g_a1 : n0 ≤ a1) :
    MetFree l (⟨"wayfarer/process/RepeatStep", "<init>", "(Ljava/util/List;ILwayfarer/process/RepeatStep$Condition;Lwayfarer/process/RepeatStep$Condition;)V"⟩ : MethodName) (head1 (Jvm.Cond.code (⟨"wayfarer/process/RepeatStep", "<init>", "(Ljava/util/List;ILwayfarer/process/RepeatStep$Condition;Lwayfarer/process/RepeatStep$Condition;)V"⟩ : MethodName) prog_134_method_1_code 5 none :: ws) R7nn) (fun a U => a = #[(.ref a1), (.ref a2), (.int p3), .null, .null] ∧ Z.Warmed39 U.vm ∧ U.heap = h0) (fun _ _ _ _ _ => True) (fun _ U o U' => ∃ v L, o = .returned v ∧ Q7nn Z a1 a2 p3 u0 u1 u2 u3 h0 n0 v U'.heap L ∧ FrameEnd U o U' L R7nn.cells R7nn.slots) := by
  refine MetFree.of_bodySF (plainFor_of_name pn_5) hisR ?_
  intro p e s m args below meth c s₁ Bd hml0 hP hK
  obtain ⟨rfl, hZ, hh⟩ := hP
  have hx := Bd.exec
  have hby := Bd.bytes
  have hlk : meth.locks = false := BodyLoose.notSynchronized Bd
  have hml : c.maxLocals = 5 := hml0
  have hown : s.vm.findClass "wayfarer/process/RepeatStep" = some m.cls := findClass_of_methodNamed Bd.named
  have hnm := (name_of_methodNamed Bd.named Bd.method).1
  have X0 : Stand p l e R7nn s m #[(.ref a1), (.ref a2), (.int p3), .null, .null] below meth c s₁ [] 0 0 := Stand.of_body Bd
  have e0 : s₁.heap = h0 := by rw [← hh, Bd.state]; rfl
  have N0 := Fr.nil n0
  show own_Goes p e below s (Q7nn Z a1 a2 p3 u0 u1 u2 u3 h0 n0) R7nn.cells R7nn.slots s₁ (entryFrame m #[(.ref a1), (.ref a2), (.int p3), .null, .null] 5)
  rw [ef_7nn m a1 a2 p3]
  refine own_step (f' := (mkF m 1 #[.val (.ref a1), .val (.ref a2), .val (.int p3), .val .null, .val .null] [(.ref a1)])) (fun _ k => XS.aloadN X0.here hx rfl (hb hby d7_0) rfl rfl k) ?_
  have Zq1 : n0 ≤ h0.size := Z0
  obtain ⟨_, _, ⟨T1, L1, k1, n1⟩, -, X1, ⟨Lc1, hQ1, l1, y1, z1⟩, st1⟩ := X0.specialBack hx (y := (⟨"java/lang/Record", "<init>", "()V"⟩ : MethodName)) rfl hown (mvT hZ (hw _ (List.mem_of_getElem? (i := 48) rfl))) (mvT hZ (hw _ (List.mem_of_getElem? (i := 33) rfl))) (mvT hZ (hw _ (List.mem_of_getElem? (i := 36) rfl))) (by decide) (backOf (W := 0) (rm6 l Z a0 hw [] a1 h0 n0 Zq1 ) hZ (hw _ (List.mem_of_getElem? (i := 36) rfl)) (hw _ (List.mem_of_getElem? (i := 35) rfl)) (by decide) (by decide)) (g := (mkF m 1 #[.val (.ref a1), .val (.ref a2), .val (.int p3), .val .null, .val .null] [(.ref a1)])) rfl (by rw [hml]; rfl) (Steps.refl _) (a := a1) (argsL := []) (rest := []) (lenOf pd_0 rfl) rfl (by show 2 * 0 + _ ≤ _; exact Nat.le_of_eq rfl) (hb hby d7_1) (fun _ _ => ⟨rfl, e0, (by decide : 0 + 0 ≤ _), (by decide : 0 + 0 ≤ _)⟩)
  dsimp only [Pt.U, Pt.locs, Pt.cells, Pt.slots] at X1 l1 y1 z1 st1 hQ1
  subst l1 y1 z1
  obtain ⟨rfl, rfl, e1⟩ := hQ1
  try rw [List.append_nil] at X1
  refine own_jump (f' := (mkF m 4 #[.val (.ref a1), .val (.ref a2), .val (.int p3), .val .null, .val .null] [])) st1 ?_
  refine own_step (f' := (mkF m 5 #[.val (.ref a1), .val (.ref a2), .val (.int p3), .val .null, .val .null] [(.ref a1)])) (fun _ k => XS.aloadN X1.here hx rfl (hb hby d7_4) rfl rfl k) ?_
  refine own_step (f' := (mkF m 6 #[.val (.ref a1), .val (.ref a2), .val (.int p3), .val .null, .val .null] [(.ref a2), (.ref a1)])) (fun _ k => XS.aloadN X1.here hx rfl (hb hby d7_5) rfl rfl k) ?_
  obtain ⟨T2, h2, X2, e2, W2, st2⟩ := putF X1 hx hZ hown (host := "") (Or.inl (hw _ (List.mem_of_getElem? (i := 49) rfl))) Via.refl e1 F_body_a1 E_a1 (Or.inr ⟨(hw _ (List.mem_of_getElem? (i := 50) rfl)), rfl, hnm⟩) (hw _ (List.mem_of_getElem? (i := 43) rfl)) (ty := (.object "java/util/List")) (by decide) rfl rfl (g := (mkF m 6 #[.val (.ref a1), .val (.ref a2), .val (.int p3), .val .null, .val .null] [(.ref a2), (.ref a1)])) rfl rfl (hb hby d7_6)
  obtain ⟨Lo2, X2, N2⟩ : ∃ K, Stand p l e R7nn s m #[(.ref a1), (.ref a2), (.int p3), .null, .null] below meth c T2 K 0 0 ∧ Fr n0 K := ⟨_, X2, (Fr.snoc X2 N0 g_a1)⟩
  refine own_step (f' := (mkF m 9 #[.val (.ref a1), .val (.ref a2), .val (.int p3), .val .null, .val .null] [])) st2 ?_
  refine own_step (f' := (mkF m 10 #[.val (.ref a1), .val (.ref a2), .val (.int p3), .val .null, .val .null] [(.ref a1)])) (fun _ k => XS.aloadN X2.here hx rfl (hb hby d7_9) rfl rfl k) ?_
  refine own_step (f' := (mkF m 11 #[.val (.ref a1), .val (.ref a2), .val (.int p3), .val .null, .val .null] [(.int p3), (.ref a1)])) (fun _ k => XS.iloadN X2.here hx rfl (hb hby d7_10) rfl k) ?_
  obtain ⟨T3, h3, X3, e3, W3, st3⟩ := putF X2 hx hZ hown (host := "") (Or.inl (hw _ (List.mem_of_getElem? (i := 51) rfl))) Via.refl e2 (F_times_a1.other W2 (Or.inr (slot_ne (Or.inr (hw _ (List.mem_of_getElem? (i := 52) rfl))) (Or.inr (hw _ (List.mem_of_getElem? (i := 50) rfl))) (by decide) (t := .int) (t' := (.object "java/util/List")) (by decide) (by decide)))) (E_a1.wr W2) (Or.inr ⟨(hw _ (List.mem_of_getElem? (i := 52) rfl)), rfl, hnm⟩) (hw _ (List.mem_of_getElem? (i := 43) rfl)) (ty := .int) (by decide) rfl rfl (g := (mkF m 11 #[.val (.ref a1), .val (.ref a2), .val (.int p3), .val .null, .val .null] [(.int p3), (.ref a1)])) rfl rfl (hb hby d7_11)
  obtain ⟨Lo3, X3, N3⟩ : ∃ K, Stand p l e R7nn s m #[(.ref a1), (.ref a2), (.int p3), .null, .null] below meth c T3 K 0 0 ∧ Fr n0 K := ⟨_, X3, (Fr.snoc X3 N2 g_a1)⟩
  refine own_step (f' := (mkF m 14 #[.val (.ref a1), .val (.ref a2), .val (.int p3), .val .null, .val .null] [])) st3 ?_
  refine own_step (f' := (mkF m 15 #[.val (.ref a1), .val (.ref a2), .val (.int p3), .val .null, .val .null] [(.ref a1)])) (fun _ k => XS.aloadN X3.here hx rfl (hb hby d7_14) rfl rfl k) ?_
  refine own_step (f' := (mkF m 16 #[.val (.ref a1), .val (.ref a2), .val (.int p3), .val .null, .val .null] [.null, (.ref a1)])) (fun _ k => XS.aloadN X3.here hx rfl (hb hby d7_15) rfl rfl k) ?_
  obtain ⟨T4, h4, X4, e4, W4, st4⟩ := putF X3 hx hZ hown (host := "") (Or.inl (hw _ (List.mem_of_getElem? (i := 53) rfl))) Via.refl e3 ((F_until_a1.other W2 (Or.inr (slot_ne (Or.inr (hw _ (List.mem_of_getElem? (i := 54) rfl))) (Or.inr (hw _ (List.mem_of_getElem? (i := 50) rfl))) (by decide) (t := (.object "wayfarer/process/RepeatStep$Condition")) (t' := (.object "java/util/List")) (by decide) (by decide)))).other W3 (Or.inr (slot_ne (Or.inr (hw _ (List.mem_of_getElem? (i := 54) rfl))) (Or.inr (hw _ (List.mem_of_getElem? (i := 52) rfl))) (by decide) (t := (.object "wayfarer/process/RepeatStep$Condition")) (t' := .int) (by decide) (by decide)))) ((E_a1.wr W2).wr W3) (Or.inr ⟨(hw _ (List.mem_of_getElem? (i := 54) rfl)), rfl, hnm⟩) (hw _ (List.mem_of_getElem? (i := 43) rfl)) (ty := (.object "wayfarer/process/RepeatStep$Condition")) (by decide) rfl rfl (g := (mkF m 16 #[.val (.ref a1), .val (.ref a2), .val (.int p3), .val .null, .val .null] [.null, (.ref a1)])) rfl rfl (hb hby d7_16)
  obtain ⟨Lo4, X4, N4⟩ : ∃ K, Stand p l e R7nn s m #[(.ref a1), (.ref a2), (.int p3), .null, .null] below meth c T4 K 0 0 ∧ Fr n0 K := ⟨_, X4, (Fr.snoc X4 N3 g_a1)⟩
  refine own_step (f' := (mkF m 19 #[.val (.ref a1), .val (.ref a2), .val (.int p3), .val .null, .val .null] [])) st4 ?_
  refine own_step (f' := (mkF m 20 #[.val (.ref a1), .val (.ref a2), .val (.int p3), .val .null, .val .null] [(.ref a1)])) (fun _ k => XS.aloadN X4.here hx rfl (hb hby d7_19) rfl rfl k) ?_
  refine own_step (f' := (mkF m 22 #[.val (.ref a1), .val (.ref a2), .val (.int p3), .val .null, .val .null] [.null, (.ref a1)])) (fun _ k => XS.aload X4.here hx rfl (hb hby d7_20) rfl rfl k) ?_
  obtain ⟨T5, h5, X5, e5, W5, st5⟩ := putF X4 hx hZ hown (host := "") (Or.inl (hw _ (List.mem_of_getElem? (i := 55) rfl))) Via.refl e4 (((F_emit_a1.other W2 (Or.inr (slot_ne (Or.inr (hw _ (List.mem_of_getElem? (i := 56) rfl))) (Or.inr (hw _ (List.mem_of_getElem? (i := 50) rfl))) (by decide) (t := (.object "wayfarer/process/RepeatStep$Condition")) (t' := (.object "java/util/List")) (by decide) (by decide)))).other W3 (Or.inr (slot_ne (Or.inr (hw _ (List.mem_of_getElem? (i := 56) rfl))) (Or.inr (hw _ (List.mem_of_getElem? (i := 52) rfl))) (by decide) (t := (.object "wayfarer/process/RepeatStep$Condition")) (t' := .int) (by decide) (by decide)))).other W4 (Or.inr (slot_ne (Or.inr (hw _ (List.mem_of_getElem? (i := 56) rfl))) (Or.inr (hw _ (List.mem_of_getElem? (i := 54) rfl))) (by decide) (t := (.object "wayfarer/process/RepeatStep$Condition")) (t' := (.object "wayfarer/process/RepeatStep$Condition")) (by decide) (by decide)))) (((E_a1.wr W2).wr W3).wr W4) (Or.inr ⟨(hw _ (List.mem_of_getElem? (i := 56) rfl)), rfl, hnm⟩) (hw _ (List.mem_of_getElem? (i := 43) rfl)) (ty := (.object "wayfarer/process/RepeatStep$Condition")) (by decide) rfl rfl (g := (mkF m 22 #[.val (.ref a1), .val (.ref a2), .val (.int p3), .val .null, .val .null] [.null, (.ref a1)])) rfl rfl (hb hby d7_22)
  obtain ⟨Lo5, X5, N5⟩ : ∃ K, Stand p l e R7nn s m #[(.ref a1), (.ref a2), (.int p3), .null, .null] below meth c T5 K 0 0 ∧ Fr n0 K := ⟨_, X5, (Fr.snoc X5 N4 g_a1)⟩
  refine own_step (f' := (mkF m 25 #[.val (.ref a1), .val (.ref a2), .val (.int p3), .val .null, .val .null] [])) st5 ?_
  refine own_out (v := none) X5 hlk (fun _ => rfl) (fun fs hr => X5.returnOut hx Bd.returns (hb hby d7_25) hr) (by decide) (by decide) ?_
  rw [e5]
  exact ⟨rfl, N5, (((((Keep.refl h0 [a1]).wr W2 (Or.inl (List.mem_of_getElem? (i := 0) rfl))).wr W3 (Or.inl (List.mem_of_getElem? (i := 0) rfl))).wr W4 (Or.inl (List.mem_of_getElem? (i := 0) rfl))).wr W5 (Or.inl (List.mem_of_getElem? (i := 0) rfl))), ((((E_a1.wr W2).wr W3).wr W4).wr W5), ((((F_body_a1.same W2).other W3 (Or.inr (slot_ne (Or.inr (hw _ (List.mem_of_getElem? (i := 50) rfl))) (Or.inr (hw _ (List.mem_of_getElem? (i := 52) rfl))) (by decide) (t := (.object "java/util/List")) (t' := .int) (by decide) (by decide)))).other W4 (Or.inr (slot_ne (Or.inr (hw _ (List.mem_of_getElem? (i := 50) rfl))) (Or.inr (hw _ (List.mem_of_getElem? (i := 54) rfl))) (by decide) (t := (.object "java/util/List")) (t' := (.object "wayfarer/process/RepeatStep$Condition")) (by decide) (by decide)))).other W5 (Or.inr (slot_ne (Or.inr (hw _ (List.mem_of_getElem? (i := 50) rfl))) (Or.inr (hw _ (List.mem_of_getElem? (i := 56) rfl))) (by decide) (t := (.object "java/util/List")) (t' := (.object "wayfarer/process/RepeatStep$Condition")) (by decide) (by decide)))), ((((F_times_a1.other W2 (Or.inr (slot_ne (Or.inr (hw _ (List.mem_of_getElem? (i := 52) rfl))) (Or.inr (hw _ (List.mem_of_getElem? (i := 50) rfl))) (by decide) (t := .int) (t' := (.object "java/util/List")) (by decide) (by decide)))).same W3).other W4 (Or.inr (slot_ne (Or.inr (hw _ (List.mem_of_getElem? (i := 52) rfl))) (Or.inr (hw _ (List.mem_of_getElem? (i := 54) rfl))) (by decide) (t := .int) (t' := (.object "wayfarer/process/RepeatStep$Condition")) (by decide) (by decide)))).other W5 (Or.inr (slot_ne (Or.inr (hw _ (List.mem_of_getElem? (i := 52) rfl))) (Or.inr (hw _ (List.mem_of_getElem? (i := 56) rfl))) (by decide) (t := .int) (t' := (.object "wayfarer/process/RepeatStep$Condition")) (by decide) (by decide)))), ((((F_until_a1.other W2 (Or.inr (slot_ne (Or.inr (hw _ (List.mem_of_getElem? (i := 54) rfl))) (Or.inr (hw _ (List.mem_of_getElem? (i := 50) rfl))) (by decide) (t := (.object "wayfarer/process/RepeatStep$Condition")) (t' := (.object "java/util/List")) (by decide) (by decide)))).other W3 (Or.inr (slot_ne (Or.inr (hw _ (List.mem_of_getElem? (i := 54) rfl))) (Or.inr (hw _ (List.mem_of_getElem? (i := 52) rfl))) (by decide) (t := (.object "wayfarer/process/RepeatStep$Condition")) (t' := .int) (by decide) (by decide)))).same W4).other W5 (Or.inr (slot_ne (Or.inr (hw _ (List.mem_of_getElem? (i := 54) rfl))) (Or.inr (hw _ (List.mem_of_getElem? (i := 56) rfl))) (by decide) (t := (.object "wayfarer/process/RepeatStep$Condition")) (t' := (.object "wayfarer/process/RepeatStep$Condition")) (by decide) (by decide)))), ((((F_emit_a1.other W2 (Or.inr (slot_ne (Or.inr (hw _ (List.mem_of_getElem? (i := 56) rfl))) (Or.inr (hw _ (List.mem_of_getElem? (i := 50) rfl))) (by decide) (t := (.object "wayfarer/process/RepeatStep$Condition")) (t' := (.object "java/util/List")) (by decide) (by decide)))).other W3 (Or.inr (slot_ne (Or.inr (hw _ (List.mem_of_getElem? (i := 56) rfl))) (Or.inr (hw _ (List.mem_of_getElem? (i := 52) rfl))) (by decide) (t := (.object "wayfarer/process/RepeatStep$Condition")) (t' := .int) (by decide) (by decide)))).other W4 (Or.inr (slot_ne (Or.inr (hw _ (List.mem_of_getElem? (i := 56) rfl))) (Or.inr (hw _ (List.mem_of_getElem? (i := 54) rfl))) (by decide) (t := (.object "wayfarer/process/RepeatStep$Condition")) (t' := (.object "wayfarer/process/RepeatStep$Condition")) (by decide) (by decide)))).same W5)⟩
theorem ef_7rn (m : MethodId) (x0 : Addr) (x1 : Addr) (x2 : Int32) (x3 : Addr) : entryFrame m #[(.ref x0), (.ref x1), (.int x2), (.ref x3), .null] 5 = mkF m 0 #[.val (.ref x0), .val (.ref x1), .val (.int x2), .val (.ref x3), .val .null] [] := by first | (simp [entryFrame, mkF, argsToLocals, Value.category]; done) | rfl
def Q7rn (Z : State) (a1 : Addr) (a2 : Addr) (p3 : Int32) (a4 : Addr) (u0 : Value) (u1 : Value) (u2 : Value) (u3 : Value) (h0 : Heap) (n0 : Nat) (v : Option Value) (h : Heap) (L : List Loc) : Prop := v = none ∧ Fr n0 L ∧ Keep h0 h [a1] ∧ Exa Z h a1 "wayfarer/process/RepeatStep" ∧ Fld Z h a1 "wayfarer/process/RepeatStep" "body" "Ljava/util/List;" (.ref a2) ∧ Fld Z h a1 "wayfarer/process/RepeatStep" "times" "I" (.int p3) ∧ Fld Z h a1 "wayfarer/process/RepeatStep" "until" "Lwayfarer/process/RepeatStep$Condition;" (.ref a4) ∧ Fld Z h a1 "wayfarer/process/RepeatStep" "emit" "Lwayfarer/process/RepeatStep$Condition;" .null
abbrev R7rn : Room := { frames := 2, cells := 0, slots := 0, locals := 24 }
set_option maxRecDepth 65536 in
set_option maxHeartbeats 40000000 in
theorem rm7rn (l : Launch) (Z : State) (a0 : Array Value) (hw : ∀ d ∈ tables_1, d.before a0 Z = true) (ws : List Jvm.Cond) (a1 : Addr) (a2 : Addr) (p3 : Int32) (a4 : Addr) (u0 : Value) (u1 : Value) (u2 : Value) (u3 : Value) (h0 : Heap) (n0 : Nat) (Z0 : n0 ≤ h0.size) (E_a1 : Exa Z h0 a1 "wayfarer/process/RepeatStep") (F_body_a1 : Fld Z h0 a1 "wayfarer/process/RepeatStep" "body" "Ljava/util/List;" u0) (F_times_a1 : Fld Z h0 a1 "wayfarer/process/RepeatStep" "times" "I" u1) (F_until_a1 : Fld Z h0 a1 "wayfarer/process/RepeatStep" "until" "Lwayfarer/process/RepeatStep$Condition;" u2) (F_emit_a1 : Fld Z h0 a1 "wayfarer/process/RepeatStep" "emit" "Lwayfarer/process/RepeatStep$Condition;" u3) (g_a1 : n0 ≤ a1) :
    MetFree l (⟨"wayfarer/process/RepeatStep", "<init>", "(Ljava/util/List;ILwayfarer/process/RepeatStep$Condition;Lwayfarer/process/RepeatStep$Condition;)V"⟩ : MethodName) (head1 (Jvm.Cond.code (⟨"wayfarer/process/RepeatStep", "<init>", "(Ljava/util/List;ILwayfarer/process/RepeatStep$Condition;Lwayfarer/process/RepeatStep$Condition;)V"⟩ : MethodName) prog_134_method_1_code 5 none :: ws) R7rn) (fun a U => a = #[(.ref a1), (.ref a2), (.int p3), (.ref a4), .null] ∧ Z.Warmed39 U.vm ∧ U.heap = h0) (fun _ _ _ _ _ => True) (fun _ U o U' => ∃ v L, o = .returned v ∧ Q7rn Z a1 a2 p3 a4 u0 u1 u2 u3 h0 n0 v U'.heap L ∧ FrameEnd U o U' L R7rn.cells R7rn.slots) := by
  refine MetFree.of_bodySF (plainFor_of_name pn_5) hisR ?_
  intro p e s m args below meth c s₁ Bd hml0 hP hK
  obtain ⟨rfl, hZ, hh⟩ := hP
  have hx := Bd.exec
  have hby := Bd.bytes
  have hlk : meth.locks = false := BodyLoose.notSynchronized Bd
  have hml : c.maxLocals = 5 := hml0
  have hown : s.vm.findClass "wayfarer/process/RepeatStep" = some m.cls := findClass_of_methodNamed Bd.named
  have hnm := (name_of_methodNamed Bd.named Bd.method).1
  have X0 : Stand p l e R7rn s m #[(.ref a1), (.ref a2), (.int p3), (.ref a4), .null] below meth c s₁ [] 0 0 := Stand.of_body Bd
  have e0 : s₁.heap = h0 := by rw [← hh, Bd.state]; rfl
  have N0 := Fr.nil n0
  show own_Goes p e below s (Q7rn Z a1 a2 p3 a4 u0 u1 u2 u3 h0 n0) R7rn.cells R7rn.slots s₁ (entryFrame m #[(.ref a1), (.ref a2), (.int p3), (.ref a4), .null] 5)
  rw [ef_7rn m a1 a2 p3 a4]
  refine own_step (f' := (mkF m 1 #[.val (.ref a1), .val (.ref a2), .val (.int p3), .val (.ref a4), .val .null] [(.ref a1)])) (fun _ k => XS.aloadN X0.here hx rfl (hb hby d7_0) rfl rfl k) ?_
  have Zq1 : n0 ≤ h0.size := Z0
  obtain ⟨_, _, ⟨T1, L1, k1, n1⟩, -, X1, ⟨Lc1, hQ1, l1, y1, z1⟩, st1⟩ := X0.specialBack hx (y := (⟨"java/lang/Record", "<init>", "()V"⟩ : MethodName)) rfl hown (mvT hZ (hw _ (List.mem_of_getElem? (i := 48) rfl))) (mvT hZ (hw _ (List.mem_of_getElem? (i := 33) rfl))) (mvT hZ (hw _ (List.mem_of_getElem? (i := 36) rfl))) (by decide) (backOf (W := 0) (rm6 l Z a0 hw [] a1 h0 n0 Zq1 ) hZ (hw _ (List.mem_of_getElem? (i := 36) rfl)) (hw _ (List.mem_of_getElem? (i := 35) rfl)) (by decide) (by decide)) (g := (mkF m 1 #[.val (.ref a1), .val (.ref a2), .val (.int p3), .val (.ref a4), .val .null] [(.ref a1)])) rfl (by rw [hml]; rfl) (Steps.refl _) (a := a1) (argsL := []) (rest := []) (lenOf pd_0 rfl) rfl (by show 2 * 0 + _ ≤ _; exact Nat.le_of_eq rfl) (hb hby d7_1) (fun _ _ => ⟨rfl, e0, (by decide : 0 + 0 ≤ _), (by decide : 0 + 0 ≤ _)⟩)
  dsimp only [Pt.U, Pt.locs, Pt.cells, Pt.slots] at X1 l1 y1 z1 st1 hQ1
  subst l1 y1 z1
  obtain ⟨rfl, rfl, e1⟩ := hQ1
  try rw [List.append_nil] at X1
  refine own_jump (f' := (mkF m 4 #[.val (.ref a1), .val (.ref a2), .val (.int p3), .val (.ref a4), .val .null] [])) st1 ?_
  refine own_step (f' := (mkF m 5 #[.val (.ref a1), .val (.ref a2), .val (.int p3), .val (.ref a4), .val .null] [(.ref a1)])) (fun _ k => XS.aloadN X1.here hx rfl (hb hby d7_4) rfl rfl k) ?_
  refine own_step (f' := (mkF m 6 #[.val (.ref a1), .val (.ref a2), .val (.int p3), .val (.ref a4), .val .null] [(.ref a2), (.ref a1)])) (fun _ k => XS.aloadN X1.here hx rfl (hb hby d7_5) rfl rfl k) ?_
  obtain ⟨T2, h2, X2, e2, W2, st2⟩ := putF X1 hx hZ hown (host := "") (Or.inl (hw _ (List.mem_of_getElem? (i := 49) rfl))) Via.refl e1 F_body_a1 E_a1 (Or.inr ⟨(hw _ (List.mem_of_getElem? (i := 50) rfl)), rfl, hnm⟩) (hw _ (List.mem_of_getElem? (i := 43) rfl)) (ty := (.object "java/util/List")) (by decide) rfl rfl (g := (mkF m 6 #[.val (.ref a1), .val (.ref a2), .val (.int p3), .val (.ref a4), .val .null] [(.ref a2), (.ref a1)])) rfl rfl (hb hby d7_6)
  obtain ⟨Lo2, X2, N2⟩ : ∃ K, Stand p l e R7rn s m #[(.ref a1), (.ref a2), (.int p3), (.ref a4), .null] below meth c T2 K 0 0 ∧ Fr n0 K := ⟨_, X2, (Fr.snoc X2 N0 g_a1)⟩
  refine own_step (f' := (mkF m 9 #[.val (.ref a1), .val (.ref a2), .val (.int p3), .val (.ref a4), .val .null] [])) st2 ?_
  refine own_step (f' := (mkF m 10 #[.val (.ref a1), .val (.ref a2), .val (.int p3), .val (.ref a4), .val .null] [(.ref a1)])) (fun _ k => XS.aloadN X2.here hx rfl (hb hby d7_9) rfl rfl k) ?_
  refine own_step (f' := (mkF m 11 #[.val (.ref a1), .val (.ref a2), .val (.int p3), .val (.ref a4), .val .null] [(.int p3), (.ref a1)])) (fun _ k => XS.iloadN X2.here hx rfl (hb hby d7_10) rfl k) ?_
  obtain ⟨T3, h3, X3, e3, W3, st3⟩ := putF X2 hx hZ hown (host := "") (Or.inl (hw _ (List.mem_of_getElem? (i := 51) rfl))) Via.refl e2 (F_times_a1.other W2 (Or.inr (slot_ne (Or.inr (hw _ (List.mem_of_getElem? (i := 52) rfl))) (Or.inr (hw _ (List.mem_of_getElem? (i := 50) rfl))) (by decide) (t := .int) (t' := (.object "java/util/List")) (by decide) (by decide)))) (E_a1.wr W2) (Or.inr ⟨(hw _ (List.mem_of_getElem? (i := 52) rfl)), rfl, hnm⟩) (hw _ (List.mem_of_getElem? (i := 43) rfl)) (ty := .int) (by decide) rfl rfl (g := (mkF m 11 #[.val (.ref a1), .val (.ref a2), .val (.int p3), .val (.ref a4), .val .null] [(.int p3), (.ref a1)])) rfl rfl (hb hby d7_11)
  obtain ⟨Lo3, X3, N3⟩ : ∃ K, Stand p l e R7rn s m #[(.ref a1), (.ref a2), (.int p3), (.ref a4), .null] below meth c T3 K 0 0 ∧ Fr n0 K := ⟨_, X3, (Fr.snoc X3 N2 g_a1)⟩
  refine own_step (f' := (mkF m 14 #[.val (.ref a1), .val (.ref a2), .val (.int p3), .val (.ref a4), .val .null] [])) st3 ?_
  refine own_step (f' := (mkF m 15 #[.val (.ref a1), .val (.ref a2), .val (.int p3), .val (.ref a4), .val .null] [(.ref a1)])) (fun _ k => XS.aloadN X3.here hx rfl (hb hby d7_14) rfl rfl k) ?_
  refine own_step (f' := (mkF m 16 #[.val (.ref a1), .val (.ref a2), .val (.int p3), .val (.ref a4), .val .null] [(.ref a4), (.ref a1)])) (fun _ k => XS.aloadN X3.here hx rfl (hb hby d7_15) rfl rfl k) ?_
  obtain ⟨T4, h4, X4, e4, W4, st4⟩ := putF X3 hx hZ hown (host := "") (Or.inl (hw _ (List.mem_of_getElem? (i := 53) rfl))) Via.refl e3 ((F_until_a1.other W2 (Or.inr (slot_ne (Or.inr (hw _ (List.mem_of_getElem? (i := 54) rfl))) (Or.inr (hw _ (List.mem_of_getElem? (i := 50) rfl))) (by decide) (t := (.object "wayfarer/process/RepeatStep$Condition")) (t' := (.object "java/util/List")) (by decide) (by decide)))).other W3 (Or.inr (slot_ne (Or.inr (hw _ (List.mem_of_getElem? (i := 54) rfl))) (Or.inr (hw _ (List.mem_of_getElem? (i := 52) rfl))) (by decide) (t := (.object "wayfarer/process/RepeatStep$Condition")) (t' := .int) (by decide) (by decide)))) ((E_a1.wr W2).wr W3) (Or.inr ⟨(hw _ (List.mem_of_getElem? (i := 54) rfl)), rfl, hnm⟩) (hw _ (List.mem_of_getElem? (i := 43) rfl)) (ty := (.object "wayfarer/process/RepeatStep$Condition")) (by decide) rfl rfl (g := (mkF m 16 #[.val (.ref a1), .val (.ref a2), .val (.int p3), .val (.ref a4), .val .null] [(.ref a4), (.ref a1)])) rfl rfl (hb hby d7_16)
  obtain ⟨Lo4, X4, N4⟩ : ∃ K, Stand p l e R7rn s m #[(.ref a1), (.ref a2), (.int p3), (.ref a4), .null] below meth c T4 K 0 0 ∧ Fr n0 K := ⟨_, X4, (Fr.snoc X4 N3 g_a1)⟩
  refine own_step (f' := (mkF m 19 #[.val (.ref a1), .val (.ref a2), .val (.int p3), .val (.ref a4), .val .null] [])) st4 ?_
  refine own_step (f' := (mkF m 20 #[.val (.ref a1), .val (.ref a2), .val (.int p3), .val (.ref a4), .val .null] [(.ref a1)])) (fun _ k => XS.aloadN X4.here hx rfl (hb hby d7_19) rfl rfl k) ?_
  refine own_step (f' := (mkF m 22 #[.val (.ref a1), .val (.ref a2), .val (.int p3), .val (.ref a4), .val .null] [.null, (.ref a1)])) (fun _ k => XS.aload X4.here hx rfl (hb hby d7_20) rfl rfl k) ?_
  obtain ⟨T5, h5, X5, e5, W5, st5⟩ := putF X4 hx hZ hown (host := "") (Or.inl (hw _ (List.mem_of_getElem? (i := 55) rfl))) Via.refl e4 (((F_emit_a1.other W2 (Or.inr (slot_ne (Or.inr (hw _ (List.mem_of_getElem? (i := 56) rfl))) (Or.inr (hw _ (List.mem_of_getElem? (i := 50) rfl))) (by decide) (t := (.object "wayfarer/process/RepeatStep$Condition")) (t' := (.object "java/util/List")) (by decide) (by decide)))).other W3 (Or.inr (slot_ne (Or.inr (hw _ (List.mem_of_getElem? (i := 56) rfl))) (Or.inr (hw _ (List.mem_of_getElem? (i := 52) rfl))) (by decide) (t := (.object "wayfarer/process/RepeatStep$Condition")) (t' := .int) (by decide) (by decide)))).other W4 (Or.inr (slot_ne (Or.inr (hw _ (List.mem_of_getElem? (i := 56) rfl))) (Or.inr (hw _ (List.mem_of_getElem? (i := 54) rfl))) (by decide) (t := (.object "wayfarer/process/RepeatStep$Condition")) (t' := (.object "wayfarer/process/RepeatStep$Condition")) (by decide) (by decide)))) (((E_a1.wr W2).wr W3).wr W4) (Or.inr ⟨(hw _ (List.mem_of_getElem? (i := 56) rfl)), rfl, hnm⟩) (hw _ (List.mem_of_getElem? (i := 43) rfl)) (ty := (.object "wayfarer/process/RepeatStep$Condition")) (by decide) rfl rfl (g := (mkF m 22 #[.val (.ref a1), .val (.ref a2), .val (.int p3), .val (.ref a4), .val .null] [.null, (.ref a1)])) rfl rfl (hb hby d7_22)
  obtain ⟨Lo5, X5, N5⟩ : ∃ K, Stand p l e R7rn s m #[(.ref a1), (.ref a2), (.int p3), (.ref a4), .null] below meth c T5 K 0 0 ∧ Fr n0 K := ⟨_, X5, (Fr.snoc X5 N4 g_a1)⟩
  refine own_step (f' := (mkF m 25 #[.val (.ref a1), .val (.ref a2), .val (.int p3), .val (.ref a4), .val .null] [])) st5 ?_
  refine own_out (v := none) X5 hlk (fun _ => rfl) (fun fs hr => X5.returnOut hx Bd.returns (hb hby d7_25) hr) (by decide) (by decide) ?_
  rw [e5]
  exact ⟨rfl, N5, (((((Keep.refl h0 [a1]).wr W2 (Or.inl (List.mem_of_getElem? (i := 0) rfl))).wr W3 (Or.inl (List.mem_of_getElem? (i := 0) rfl))).wr W4 (Or.inl (List.mem_of_getElem? (i := 0) rfl))).wr W5 (Or.inl (List.mem_of_getElem? (i := 0) rfl))), ((((E_a1.wr W2).wr W3).wr W4).wr W5), ((((F_body_a1.same W2).other W3 (Or.inr (slot_ne (Or.inr (hw _ (List.mem_of_getElem? (i := 50) rfl))) (Or.inr (hw _ (List.mem_of_getElem? (i := 52) rfl))) (by decide) (t := (.object "java/util/List")) (t' := .int) (by decide) (by decide)))).other W4 (Or.inr (slot_ne (Or.inr (hw _ (List.mem_of_getElem? (i := 50) rfl))) (Or.inr (hw _ (List.mem_of_getElem? (i := 54) rfl))) (by decide) (t := (.object "java/util/List")) (t' := (.object "wayfarer/process/RepeatStep$Condition")) (by decide) (by decide)))).other W5 (Or.inr (slot_ne (Or.inr (hw _ (List.mem_of_getElem? (i := 50) rfl))) (Or.inr (hw _ (List.mem_of_getElem? (i := 56) rfl))) (by decide) (t := (.object "java/util/List")) (t' := (.object "wayfarer/process/RepeatStep$Condition")) (by decide) (by decide)))), ((((F_times_a1.other W2 (Or.inr (slot_ne (Or.inr (hw _ (List.mem_of_getElem? (i := 52) rfl))) (Or.inr (hw _ (List.mem_of_getElem? (i := 50) rfl))) (by decide) (t := .int) (t' := (.object "java/util/List")) (by decide) (by decide)))).same W3).other W4 (Or.inr (slot_ne (Or.inr (hw _ (List.mem_of_getElem? (i := 52) rfl))) (Or.inr (hw _ (List.mem_of_getElem? (i := 54) rfl))) (by decide) (t := .int) (t' := (.object "wayfarer/process/RepeatStep$Condition")) (by decide) (by decide)))).other W5 (Or.inr (slot_ne (Or.inr (hw _ (List.mem_of_getElem? (i := 52) rfl))) (Or.inr (hw _ (List.mem_of_getElem? (i := 56) rfl))) (by decide) (t := .int) (t' := (.object "wayfarer/process/RepeatStep$Condition")) (by decide) (by decide)))), ((((F_until_a1.other W2 (Or.inr (slot_ne (Or.inr (hw _ (List.mem_of_getElem? (i := 54) rfl))) (Or.inr (hw _ (List.mem_of_getElem? (i := 50) rfl))) (by decide) (t := (.object "wayfarer/process/RepeatStep$Condition")) (t' := (.object "java/util/List")) (by decide) (by decide)))).other W3 (Or.inr (slot_ne (Or.inr (hw _ (List.mem_of_getElem? (i := 54) rfl))) (Or.inr (hw _ (List.mem_of_getElem? (i := 52) rfl))) (by decide) (t := (.object "wayfarer/process/RepeatStep$Condition")) (t' := .int) (by decide) (by decide)))).same W4).other W5 (Or.inr (slot_ne (Or.inr (hw _ (List.mem_of_getElem? (i := 54) rfl))) (Or.inr (hw _ (List.mem_of_getElem? (i := 56) rfl))) (by decide) (t := (.object "wayfarer/process/RepeatStep$Condition")) (t' := (.object "wayfarer/process/RepeatStep$Condition")) (by decide) (by decide)))), ((((F_emit_a1.other W2 (Or.inr (slot_ne (Or.inr (hw _ (List.mem_of_getElem? (i := 56) rfl))) (Or.inr (hw _ (List.mem_of_getElem? (i := 50) rfl))) (by decide) (t := (.object "wayfarer/process/RepeatStep$Condition")) (t' := (.object "java/util/List")) (by decide) (by decide)))).other W3 (Or.inr (slot_ne (Or.inr (hw _ (List.mem_of_getElem? (i := 56) rfl))) (Or.inr (hw _ (List.mem_of_getElem? (i := 52) rfl))) (by decide) (t := (.object "wayfarer/process/RepeatStep$Condition")) (t' := .int) (by decide) (by decide)))).other W4 (Or.inr (slot_ne (Or.inr (hw _ (List.mem_of_getElem? (i := 56) rfl))) (Or.inr (hw _ (List.mem_of_getElem? (i := 54) rfl))) (by decide) (t := (.object "wayfarer/process/RepeatStep$Condition")) (t' := (.object "wayfarer/process/RepeatStep$Condition")) (by decide) (by decide)))).same W5)⟩
theorem ef_7nr (m : MethodId) (x0 : Addr) (x1 : Addr) (x2 : Int32) (x4 : Addr) : entryFrame m #[(.ref x0), (.ref x1), (.int x2), .null, (.ref x4)] 5 = mkF m 0 #[.val (.ref x0), .val (.ref x1), .val (.int x2), .val .null, .val (.ref x4)] [] := by first | (simp [entryFrame, mkF, argsToLocals, Value.category]; done) | rfl
def Q7nr (Z : State) (a1 : Addr) (a2 : Addr) (p3 : Int32) (a5 : Addr) (u0 : Value) (u1 : Value) (u2 : Value) (u3 : Value) (h0 : Heap) (n0 : Nat) (v : Option Value) (h : Heap) (L : List Loc) : Prop := v = none ∧ Fr n0 L ∧ Keep h0 h [a1] ∧ Exa Z h a1 "wayfarer/process/RepeatStep" ∧ Fld Z h a1 "wayfarer/process/RepeatStep" "body" "Ljava/util/List;" (.ref a2) ∧ Fld Z h a1 "wayfarer/process/RepeatStep" "times" "I" (.int p3) ∧ Fld Z h a1 "wayfarer/process/RepeatStep" "until" "Lwayfarer/process/RepeatStep$Condition;" .null ∧ Fld Z h a1 "wayfarer/process/RepeatStep" "emit" "Lwayfarer/process/RepeatStep$Condition;" (.ref a5)
abbrev R7nr : Room := { frames := 2, cells := 0, slots := 0, locals := 24 }
set_option maxRecDepth 65536 in
set_option maxHeartbeats 40000000 in
theorem rm7nr (l : Launch) (Z : State) (a0 : Array Value) (hw : ∀ d ∈ tables_1, d.before a0 Z = true) (ws : List Jvm.Cond) (a1 : Addr) (a2 : Addr) (p3 : Int32) (a5 : Addr) (u0 : Value) (u1 : Value) (u2 : Value) (u3 : Value) (h0 : Heap) (n0 : Nat) (Z0 : n0 ≤ h0.size) (E_a1 : Exa Z h0 a1 "wayfarer/process/RepeatStep") (F_body_a1 : Fld Z h0 a1 "wayfarer/process/RepeatStep" "body" "Ljava/util/List;" u0) (F_times_a1 : Fld Z h0 a1 "wayfarer/process/RepeatStep" "times" "I" u1) (F_until_a1 : Fld Z h0 a1 "wayfarer/process/RepeatStep" "until" "Lwayfarer/process/RepeatStep$Condition;" u2) (F_emit_a1 : Fld Z h0 a1 "wayfarer/process/RepeatStep" "emit" "Lwayfarer/process/RepeatStep$Condition;" u3) (g_a1 : n0 ≤ a1) :
    MetFree l (⟨"wayfarer/process/RepeatStep", "<init>", "(Ljava/util/List;ILwayfarer/process/RepeatStep$Condition;Lwayfarer/process/RepeatStep$Condition;)V"⟩ : MethodName) (head1 (Jvm.Cond.code (⟨"wayfarer/process/RepeatStep", "<init>", "(Ljava/util/List;ILwayfarer/process/RepeatStep$Condition;Lwayfarer/process/RepeatStep$Condition;)V"⟩ : MethodName) prog_134_method_1_code 5 none :: ws) R7nr) (fun a U => a = #[(.ref a1), (.ref a2), (.int p3), .null, (.ref a5)] ∧ Z.Warmed39 U.vm ∧ U.heap = h0) (fun _ _ _ _ _ => True) (fun _ U o U' => ∃ v L, o = .returned v ∧ Q7nr Z a1 a2 p3 a5 u0 u1 u2 u3 h0 n0 v U'.heap L ∧ FrameEnd U o U' L R7nr.cells R7nr.slots) := by
  refine MetFree.of_bodySF (plainFor_of_name pn_5) hisR ?_
  intro p e s m args below meth c s₁ Bd hml0 hP hK
  obtain ⟨rfl, hZ, hh⟩ := hP
  have hx := Bd.exec
  have hby := Bd.bytes
  have hlk : meth.locks = false := BodyLoose.notSynchronized Bd
  have hml : c.maxLocals = 5 := hml0
  have hown : s.vm.findClass "wayfarer/process/RepeatStep" = some m.cls := findClass_of_methodNamed Bd.named
  have hnm := (name_of_methodNamed Bd.named Bd.method).1
  have X0 : Stand p l e R7nr s m #[(.ref a1), (.ref a2), (.int p3), .null, (.ref a5)] below meth c s₁ [] 0 0 := Stand.of_body Bd
  have e0 : s₁.heap = h0 := by rw [← hh, Bd.state]; rfl
  have N0 := Fr.nil n0
  show own_Goes p e below s (Q7nr Z a1 a2 p3 a5 u0 u1 u2 u3 h0 n0) R7nr.cells R7nr.slots s₁ (entryFrame m #[(.ref a1), (.ref a2), (.int p3), .null, (.ref a5)] 5)
  rw [ef_7nr m a1 a2 p3 a5]
  refine own_step (f' := (mkF m 1 #[.val (.ref a1), .val (.ref a2), .val (.int p3), .val .null, .val (.ref a5)] [(.ref a1)])) (fun _ k => XS.aloadN X0.here hx rfl (hb hby d7_0) rfl rfl k) ?_
  have Zq1 : n0 ≤ h0.size := Z0
  obtain ⟨_, _, ⟨T1, L1, k1, n1⟩, -, X1, ⟨Lc1, hQ1, l1, y1, z1⟩, st1⟩ := X0.specialBack hx (y := (⟨"java/lang/Record", "<init>", "()V"⟩ : MethodName)) rfl hown (mvT hZ (hw _ (List.mem_of_getElem? (i := 48) rfl))) (mvT hZ (hw _ (List.mem_of_getElem? (i := 33) rfl))) (mvT hZ (hw _ (List.mem_of_getElem? (i := 36) rfl))) (by decide) (backOf (W := 0) (rm6 l Z a0 hw [] a1 h0 n0 Zq1 ) hZ (hw _ (List.mem_of_getElem? (i := 36) rfl)) (hw _ (List.mem_of_getElem? (i := 35) rfl)) (by decide) (by decide)) (g := (mkF m 1 #[.val (.ref a1), .val (.ref a2), .val (.int p3), .val .null, .val (.ref a5)] [(.ref a1)])) rfl (by rw [hml]; rfl) (Steps.refl _) (a := a1) (argsL := []) (rest := []) (lenOf pd_0 rfl) rfl (by show 2 * 0 + _ ≤ _; exact Nat.le_of_eq rfl) (hb hby d7_1) (fun _ _ => ⟨rfl, e0, (by decide : 0 + 0 ≤ _), (by decide : 0 + 0 ≤ _)⟩)
  dsimp only [Pt.U, Pt.locs, Pt.cells, Pt.slots] at X1 l1 y1 z1 st1 hQ1
  subst l1 y1 z1
  obtain ⟨rfl, rfl, e1⟩ := hQ1
  try rw [List.append_nil] at X1
  refine own_jump (f' := (mkF m 4 #[.val (.ref a1), .val (.ref a2), .val (.int p3), .val .null, .val (.ref a5)] [])) st1 ?_
  refine own_step (f' := (mkF m 5 #[.val (.ref a1), .val (.ref a2), .val (.int p3), .val .null, .val (.ref a5)] [(.ref a1)])) (fun _ k => XS.aloadN X1.here hx rfl (hb hby d7_4) rfl rfl k) ?_
  refine own_step (f' := (mkF m 6 #[.val (.ref a1), .val (.ref a2), .val (.int p3), .val .null, .val (.ref a5)] [(.ref a2), (.ref a1)])) (fun _ k => XS.aloadN X1.here hx rfl (hb hby d7_5) rfl rfl k) ?_
  obtain ⟨T2, h2, X2, e2, W2, st2⟩ := putF X1 hx hZ hown (host := "") (Or.inl (hw _ (List.mem_of_getElem? (i := 49) rfl))) Via.refl e1 F_body_a1 E_a1 (Or.inr ⟨(hw _ (List.mem_of_getElem? (i := 50) rfl)), rfl, hnm⟩) (hw _ (List.mem_of_getElem? (i := 43) rfl)) (ty := (.object "java/util/List")) (by decide) rfl rfl (g := (mkF m 6 #[.val (.ref a1), .val (.ref a2), .val (.int p3), .val .null, .val (.ref a5)] [(.ref a2), (.ref a1)])) rfl rfl (hb hby d7_6)
  obtain ⟨Lo2, X2, N2⟩ : ∃ K, Stand p l e R7nr s m #[(.ref a1), (.ref a2), (.int p3), .null, (.ref a5)] below meth c T2 K 0 0 ∧ Fr n0 K := ⟨_, X2, (Fr.snoc X2 N0 g_a1)⟩
  refine own_step (f' := (mkF m 9 #[.val (.ref a1), .val (.ref a2), .val (.int p3), .val .null, .val (.ref a5)] [])) st2 ?_
  refine own_step (f' := (mkF m 10 #[.val (.ref a1), .val (.ref a2), .val (.int p3), .val .null, .val (.ref a5)] [(.ref a1)])) (fun _ k => XS.aloadN X2.here hx rfl (hb hby d7_9) rfl rfl k) ?_
  refine own_step (f' := (mkF m 11 #[.val (.ref a1), .val (.ref a2), .val (.int p3), .val .null, .val (.ref a5)] [(.int p3), (.ref a1)])) (fun _ k => XS.iloadN X2.here hx rfl (hb hby d7_10) rfl k) ?_
  obtain ⟨T3, h3, X3, e3, W3, st3⟩ := putF X2 hx hZ hown (host := "") (Or.inl (hw _ (List.mem_of_getElem? (i := 51) rfl))) Via.refl e2 (F_times_a1.other W2 (Or.inr (slot_ne (Or.inr (hw _ (List.mem_of_getElem? (i := 52) rfl))) (Or.inr (hw _ (List.mem_of_getElem? (i := 50) rfl))) (by decide) (t := .int) (t' := (.object "java/util/List")) (by decide) (by decide)))) (E_a1.wr W2) (Or.inr ⟨(hw _ (List.mem_of_getElem? (i := 52) rfl)), rfl, hnm⟩) (hw _ (List.mem_of_getElem? (i := 43) rfl)) (ty := .int) (by decide) rfl rfl (g := (mkF m 11 #[.val (.ref a1), .val (.ref a2), .val (.int p3), .val .null, .val (.ref a5)] [(.int p3), (.ref a1)])) rfl rfl (hb hby d7_11)
  obtain ⟨Lo3, X3, N3⟩ : ∃ K, Stand p l e R7nr s m #[(.ref a1), (.ref a2), (.int p3), .null, (.ref a5)] below meth c T3 K 0 0 ∧ Fr n0 K := ⟨_, X3, (Fr.snoc X3 N2 g_a1)⟩
  refine own_step (f' := (mkF m 14 #[.val (.ref a1), .val (.ref a2), .val (.int p3), .val .null, .val (.ref a5)] [])) st3 ?_
  refine own_step (f' := (mkF m 15 #[.val (.ref a1), .val (.ref a2), .val (.int p3), .val .null, .val (.ref a5)] [(.ref a1)])) (fun _ k => XS.aloadN X3.here hx rfl (hb hby d7_14) rfl rfl k) ?_
  refine own_step (f' := (mkF m 16 #[.val (.ref a1), .val (.ref a2), .val (.int p3), .val .null, .val (.ref a5)] [.null, (.ref a1)])) (fun _ k => XS.aloadN X3.here hx rfl (hb hby d7_15) rfl rfl k) ?_
  obtain ⟨T4, h4, X4, e4, W4, st4⟩ := putF X3 hx hZ hown (host := "") (Or.inl (hw _ (List.mem_of_getElem? (i := 53) rfl))) Via.refl e3 ((F_until_a1.other W2 (Or.inr (slot_ne (Or.inr (hw _ (List.mem_of_getElem? (i := 54) rfl))) (Or.inr (hw _ (List.mem_of_getElem? (i := 50) rfl))) (by decide) (t := (.object "wayfarer/process/RepeatStep$Condition")) (t' := (.object "java/util/List")) (by decide) (by decide)))).other W3 (Or.inr (slot_ne (Or.inr (hw _ (List.mem_of_getElem? (i := 54) rfl))) (Or.inr (hw _ (List.mem_of_getElem? (i := 52) rfl))) (by decide) (t := (.object "wayfarer/process/RepeatStep$Condition")) (t' := .int) (by decide) (by decide)))) ((E_a1.wr W2).wr W3) (Or.inr ⟨(hw _ (List.mem_of_getElem? (i := 54) rfl)), rfl, hnm⟩) (hw _ (List.mem_of_getElem? (i := 43) rfl)) (ty := (.object "wayfarer/process/RepeatStep$Condition")) (by decide) rfl rfl (g := (mkF m 16 #[.val (.ref a1), .val (.ref a2), .val (.int p3), .val .null, .val (.ref a5)] [.null, (.ref a1)])) rfl rfl (hb hby d7_16)
  obtain ⟨Lo4, X4, N4⟩ : ∃ K, Stand p l e R7nr s m #[(.ref a1), (.ref a2), (.int p3), .null, (.ref a5)] below meth c T4 K 0 0 ∧ Fr n0 K := ⟨_, X4, (Fr.snoc X4 N3 g_a1)⟩
  refine own_step (f' := (mkF m 19 #[.val (.ref a1), .val (.ref a2), .val (.int p3), .val .null, .val (.ref a5)] [])) st4 ?_
  refine own_step (f' := (mkF m 20 #[.val (.ref a1), .val (.ref a2), .val (.int p3), .val .null, .val (.ref a5)] [(.ref a1)])) (fun _ k => XS.aloadN X4.here hx rfl (hb hby d7_19) rfl rfl k) ?_
  refine own_step (f' := (mkF m 22 #[.val (.ref a1), .val (.ref a2), .val (.int p3), .val .null, .val (.ref a5)] [(.ref a5), (.ref a1)])) (fun _ k => XS.aload X4.here hx rfl (hb hby d7_20) rfl rfl k) ?_
  obtain ⟨T5, h5, X5, e5, W5, st5⟩ := putF X4 hx hZ hown (host := "") (Or.inl (hw _ (List.mem_of_getElem? (i := 55) rfl))) Via.refl e4 (((F_emit_a1.other W2 (Or.inr (slot_ne (Or.inr (hw _ (List.mem_of_getElem? (i := 56) rfl))) (Or.inr (hw _ (List.mem_of_getElem? (i := 50) rfl))) (by decide) (t := (.object "wayfarer/process/RepeatStep$Condition")) (t' := (.object "java/util/List")) (by decide) (by decide)))).other W3 (Or.inr (slot_ne (Or.inr (hw _ (List.mem_of_getElem? (i := 56) rfl))) (Or.inr (hw _ (List.mem_of_getElem? (i := 52) rfl))) (by decide) (t := (.object "wayfarer/process/RepeatStep$Condition")) (t' := .int) (by decide) (by decide)))).other W4 (Or.inr (slot_ne (Or.inr (hw _ (List.mem_of_getElem? (i := 56) rfl))) (Or.inr (hw _ (List.mem_of_getElem? (i := 54) rfl))) (by decide) (t := (.object "wayfarer/process/RepeatStep$Condition")) (t' := (.object "wayfarer/process/RepeatStep$Condition")) (by decide) (by decide)))) (((E_a1.wr W2).wr W3).wr W4) (Or.inr ⟨(hw _ (List.mem_of_getElem? (i := 56) rfl)), rfl, hnm⟩) (hw _ (List.mem_of_getElem? (i := 43) rfl)) (ty := (.object "wayfarer/process/RepeatStep$Condition")) (by decide) rfl rfl (g := (mkF m 22 #[.val (.ref a1), .val (.ref a2), .val (.int p3), .val .null, .val (.ref a5)] [(.ref a5), (.ref a1)])) rfl rfl (hb hby d7_22)
  obtain ⟨Lo5, X5, N5⟩ : ∃ K, Stand p l e R7nr s m #[(.ref a1), (.ref a2), (.int p3), .null, (.ref a5)] below meth c T5 K 0 0 ∧ Fr n0 K := ⟨_, X5, (Fr.snoc X5 N4 g_a1)⟩
  refine own_step (f' := (mkF m 25 #[.val (.ref a1), .val (.ref a2), .val (.int p3), .val .null, .val (.ref a5)] [])) st5 ?_
  refine own_out (v := none) X5 hlk (fun _ => rfl) (fun fs hr => X5.returnOut hx Bd.returns (hb hby d7_25) hr) (by decide) (by decide) ?_
  rw [e5]
  exact ⟨rfl, N5, (((((Keep.refl h0 [a1]).wr W2 (Or.inl (List.mem_of_getElem? (i := 0) rfl))).wr W3 (Or.inl (List.mem_of_getElem? (i := 0) rfl))).wr W4 (Or.inl (List.mem_of_getElem? (i := 0) rfl))).wr W5 (Or.inl (List.mem_of_getElem? (i := 0) rfl))), ((((E_a1.wr W2).wr W3).wr W4).wr W5), ((((F_body_a1.same W2).other W3 (Or.inr (slot_ne (Or.inr (hw _ (List.mem_of_getElem? (i := 50) rfl))) (Or.inr (hw _ (List.mem_of_getElem? (i := 52) rfl))) (by decide) (t := (.object "java/util/List")) (t' := .int) (by decide) (by decide)))).other W4 (Or.inr (slot_ne (Or.inr (hw _ (List.mem_of_getElem? (i := 50) rfl))) (Or.inr (hw _ (List.mem_of_getElem? (i := 54) rfl))) (by decide) (t := (.object "java/util/List")) (t' := (.object "wayfarer/process/RepeatStep$Condition")) (by decide) (by decide)))).other W5 (Or.inr (slot_ne (Or.inr (hw _ (List.mem_of_getElem? (i := 50) rfl))) (Or.inr (hw _ (List.mem_of_getElem? (i := 56) rfl))) (by decide) (t := (.object "java/util/List")) (t' := (.object "wayfarer/process/RepeatStep$Condition")) (by decide) (by decide)))), ((((F_times_a1.other W2 (Or.inr (slot_ne (Or.inr (hw _ (List.mem_of_getElem? (i := 52) rfl))) (Or.inr (hw _ (List.mem_of_getElem? (i := 50) rfl))) (by decide) (t := .int) (t' := (.object "java/util/List")) (by decide) (by decide)))).same W3).other W4 (Or.inr (slot_ne (Or.inr (hw _ (List.mem_of_getElem? (i := 52) rfl))) (Or.inr (hw _ (List.mem_of_getElem? (i := 54) rfl))) (by decide) (t := .int) (t' := (.object "wayfarer/process/RepeatStep$Condition")) (by decide) (by decide)))).other W5 (Or.inr (slot_ne (Or.inr (hw _ (List.mem_of_getElem? (i := 52) rfl))) (Or.inr (hw _ (List.mem_of_getElem? (i := 56) rfl))) (by decide) (t := .int) (t' := (.object "wayfarer/process/RepeatStep$Condition")) (by decide) (by decide)))), ((((F_until_a1.other W2 (Or.inr (slot_ne (Or.inr (hw _ (List.mem_of_getElem? (i := 54) rfl))) (Or.inr (hw _ (List.mem_of_getElem? (i := 50) rfl))) (by decide) (t := (.object "wayfarer/process/RepeatStep$Condition")) (t' := (.object "java/util/List")) (by decide) (by decide)))).other W3 (Or.inr (slot_ne (Or.inr (hw _ (List.mem_of_getElem? (i := 54) rfl))) (Or.inr (hw _ (List.mem_of_getElem? (i := 52) rfl))) (by decide) (t := (.object "wayfarer/process/RepeatStep$Condition")) (t' := .int) (by decide) (by decide)))).same W4).other W5 (Or.inr (slot_ne (Or.inr (hw _ (List.mem_of_getElem? (i := 54) rfl))) (Or.inr (hw _ (List.mem_of_getElem? (i := 56) rfl))) (by decide) (t := (.object "wayfarer/process/RepeatStep$Condition")) (t' := (.object "wayfarer/process/RepeatStep$Condition")) (by decide) (by decide)))), ((((F_emit_a1.other W2 (Or.inr (slot_ne (Or.inr (hw _ (List.mem_of_getElem? (i := 56) rfl))) (Or.inr (hw _ (List.mem_of_getElem? (i := 50) rfl))) (by decide) (t := (.object "wayfarer/process/RepeatStep$Condition")) (t' := (.object "java/util/List")) (by decide) (by decide)))).other W3 (Or.inr (slot_ne (Or.inr (hw _ (List.mem_of_getElem? (i := 56) rfl))) (Or.inr (hw _ (List.mem_of_getElem? (i := 52) rfl))) (by decide) (t := (.object "wayfarer/process/RepeatStep$Condition")) (t' := .int) (by decide) (by decide)))).other W4 (Or.inr (slot_ne (Or.inr (hw _ (List.mem_of_getElem? (i := 56) rfl))) (Or.inr (hw _ (List.mem_of_getElem? (i := 54) rfl))) (by decide) (t := (.object "wayfarer/process/RepeatStep$Condition")) (t' := (.object "wayfarer/process/RepeatStep$Condition")) (by decide) (by decide)))).same W5)⟩
theorem ef_7rr (m : MethodId) (x0 : Addr) (x1 : Addr) (x2 : Int32) (x3 : Addr) (x4 : Addr) : entryFrame m #[(.ref x0), (.ref x1), (.int x2), (.ref x3), (.ref x4)] 5 = mkF m 0 #[.val (.ref x0), .val (.ref x1), .val (.int x2), .val (.ref x3), .val (.ref x4)] [] := by first | (simp [entryFrame, mkF, argsToLocals, Value.category]; done) | rfl
def Q7rr (Z : State) (a1 : Addr) (a2 : Addr) (p3 : Int32) (a4 : Addr) (a5 : Addr) (u0 : Value) (u1 : Value) (u2 : Value) (u3 : Value) (h0 : Heap) (n0 : Nat) (v : Option Value) (h : Heap) (L : List Loc) : Prop := v = none ∧ Fr n0 L ∧ Keep h0 h [a1] ∧ Exa Z h a1 "wayfarer/process/RepeatStep" ∧ Fld Z h a1 "wayfarer/process/RepeatStep" "body" "Ljava/util/List;" (.ref a2) ∧ Fld Z h a1 "wayfarer/process/RepeatStep" "times" "I" (.int p3) ∧ Fld Z h a1 "wayfarer/process/RepeatStep" "until" "Lwayfarer/process/RepeatStep$Condition;" (.ref a4) ∧ Fld Z h a1 "wayfarer/process/RepeatStep" "emit" "Lwayfarer/process/RepeatStep$Condition;" (.ref a5)
abbrev R7rr : Room := { frames := 2, cells := 0, slots := 0, locals := 24 }
set_option maxRecDepth 65536 in
set_option maxHeartbeats 40000000 in
theorem rm7rr (l : Launch) (Z : State) (a0 : Array Value) (hw : ∀ d ∈ tables_1, d.before a0 Z = true) (ws : List Jvm.Cond) (a1 : Addr) (a2 : Addr) (p3 : Int32) (a4 : Addr) (a5 : Addr) (u0 : Value) (u1 : Value) (u2 : Value) (u3 : Value) (h0 : Heap) (n0 : Nat) (Z0 : n0 ≤ h0.size) (E_a1 : Exa Z h0 a1 "wayfarer/process/RepeatStep") (F_body_a1 : Fld Z h0 a1 "wayfarer/process/RepeatStep" "body" "Ljava/util/List;" u0) (F_times_a1 : Fld Z h0 a1 "wayfarer/process/RepeatStep" "times" "I" u1) (F_until_a1 : Fld Z h0 a1 "wayfarer/process/RepeatStep" "until" "Lwayfarer/process/RepeatStep$Condition;" u2) (F_emit_a1 : Fld Z h0 a1 "wayfarer/process/RepeatStep" "emit" "Lwayfarer/process/RepeatStep$Condition;" u3) (g_a1 : n0 ≤ a1) :
    MetFree l (⟨"wayfarer/process/RepeatStep", "<init>", "(Ljava/util/List;ILwayfarer/process/RepeatStep$Condition;Lwayfarer/process/RepeatStep$Condition;)V"⟩ : MethodName) (head1 (Jvm.Cond.code (⟨"wayfarer/process/RepeatStep", "<init>", "(Ljava/util/List;ILwayfarer/process/RepeatStep$Condition;Lwayfarer/process/RepeatStep$Condition;)V"⟩ : MethodName) prog_134_method_1_code 5 none :: ws) R7rr) (fun a U => a = #[(.ref a1), (.ref a2), (.int p3), (.ref a4), (.ref a5)] ∧ Z.Warmed39 U.vm ∧ U.heap = h0) (fun _ _ _ _ _ => True) (fun _ U o U' => ∃ v L, o = .returned v ∧ Q7rr Z a1 a2 p3 a4 a5 u0 u1 u2 u3 h0 n0 v U'.heap L ∧ FrameEnd U o U' L R7rr.cells R7rr.slots) := by
  refine MetFree.of_bodySF (plainFor_of_name pn_5) hisR ?_
  intro p e s m args below meth c s₁ Bd hml0 hP hK
  obtain ⟨rfl, hZ, hh⟩ := hP
  have hx := Bd.exec
  have hby := Bd.bytes
  have hlk : meth.locks = false := BodyLoose.notSynchronized Bd
  have hml : c.maxLocals = 5 := hml0
  have hown : s.vm.findClass "wayfarer/process/RepeatStep" = some m.cls := findClass_of_methodNamed Bd.named
  have hnm := (name_of_methodNamed Bd.named Bd.method).1
  have X0 : Stand p l e R7rr s m #[(.ref a1), (.ref a2), (.int p3), (.ref a4), (.ref a5)] below meth c s₁ [] 0 0 := Stand.of_body Bd
  have e0 : s₁.heap = h0 := by rw [← hh, Bd.state]; rfl
  have N0 := Fr.nil n0
  show own_Goes p e below s (Q7rr Z a1 a2 p3 a4 a5 u0 u1 u2 u3 h0 n0) R7rr.cells R7rr.slots s₁ (entryFrame m #[(.ref a1), (.ref a2), (.int p3), (.ref a4), (.ref a5)] 5)
  rw [ef_7rr m a1 a2 p3 a4 a5]
  refine own_step (f' := (mkF m 1 #[.val (.ref a1), .val (.ref a2), .val (.int p3), .val (.ref a4), .val (.ref a5)] [(.ref a1)])) (fun _ k => XS.aloadN X0.here hx rfl (hb hby d7_0) rfl rfl k) ?_
  have Zq1 : n0 ≤ h0.size := Z0
  obtain ⟨_, _, ⟨T1, L1, k1, n1⟩, -, X1, ⟨Lc1, hQ1, l1, y1, z1⟩, st1⟩ := X0.specialBack hx (y := (⟨"java/lang/Record", "<init>", "()V"⟩ : MethodName)) rfl hown (mvT hZ (hw _ (List.mem_of_getElem? (i := 48) rfl))) (mvT hZ (hw _ (List.mem_of_getElem? (i := 33) rfl))) (mvT hZ (hw _ (List.mem_of_getElem? (i := 36) rfl))) (by decide) (backOf (W := 0) (rm6 l Z a0 hw [] a1 h0 n0 Zq1 ) hZ (hw _ (List.mem_of_getElem? (i := 36) rfl)) (hw _ (List.mem_of_getElem? (i := 35) rfl)) (by decide) (by decide)) (g := (mkF m 1 #[.val (.ref a1), .val (.ref a2), .val (.int p3), .val (.ref a4), .val (.ref a5)] [(.ref a1)])) rfl (by rw [hml]; rfl) (Steps.refl _) (a := a1) (argsL := []) (rest := []) (lenOf pd_0 rfl) rfl (by show 2 * 0 + _ ≤ _; exact Nat.le_of_eq rfl) (hb hby d7_1) (fun _ _ => ⟨rfl, e0, (by decide : 0 + 0 ≤ _), (by decide : 0 + 0 ≤ _)⟩)
  dsimp only [Pt.U, Pt.locs, Pt.cells, Pt.slots] at X1 l1 y1 z1 st1 hQ1
  subst l1 y1 z1
  obtain ⟨rfl, rfl, e1⟩ := hQ1
  try rw [List.append_nil] at X1
  refine own_jump (f' := (mkF m 4 #[.val (.ref a1), .val (.ref a2), .val (.int p3), .val (.ref a4), .val (.ref a5)] [])) st1 ?_
  refine own_step (f' := (mkF m 5 #[.val (.ref a1), .val (.ref a2), .val (.int p3), .val (.ref a4), .val (.ref a5)] [(.ref a1)])) (fun _ k => XS.aloadN X1.here hx rfl (hb hby d7_4) rfl rfl k) ?_
  refine own_step (f' := (mkF m 6 #[.val (.ref a1), .val (.ref a2), .val (.int p3), .val (.ref a4), .val (.ref a5)] [(.ref a2), (.ref a1)])) (fun _ k => XS.aloadN X1.here hx rfl (hb hby d7_5) rfl rfl k) ?_
  obtain ⟨T2, h2, X2, e2, W2, st2⟩ := putF X1 hx hZ hown (host := "") (Or.inl (hw _ (List.mem_of_getElem? (i := 49) rfl))) Via.refl e1 F_body_a1 E_a1 (Or.inr ⟨(hw _ (List.mem_of_getElem? (i := 50) rfl)), rfl, hnm⟩) (hw _ (List.mem_of_getElem? (i := 43) rfl)) (ty := (.object "java/util/List")) (by decide) rfl rfl (g := (mkF m 6 #[.val (.ref a1), .val (.ref a2), .val (.int p3), .val (.ref a4), .val (.ref a5)] [(.ref a2), (.ref a1)])) rfl rfl (hb hby d7_6)
  obtain ⟨Lo2, X2, N2⟩ : ∃ K, Stand p l e R7rr s m #[(.ref a1), (.ref a2), (.int p3), (.ref a4), (.ref a5)] below meth c T2 K 0 0 ∧ Fr n0 K := ⟨_, X2, (Fr.snoc X2 N0 g_a1)⟩
  refine own_step (f' := (mkF m 9 #[.val (.ref a1), .val (.ref a2), .val (.int p3), .val (.ref a4), .val (.ref a5)] [])) st2 ?_
  refine own_step (f' := (mkF m 10 #[.val (.ref a1), .val (.ref a2), .val (.int p3), .val (.ref a4), .val (.ref a5)] [(.ref a1)])) (fun _ k => XS.aloadN X2.here hx rfl (hb hby d7_9) rfl rfl k) ?_
  refine own_step (f' := (mkF m 11 #[.val (.ref a1), .val (.ref a2), .val (.int p3), .val (.ref a4), .val (.ref a5)] [(.int p3), (.ref a1)])) (fun _ k => XS.iloadN X2.here hx rfl (hb hby d7_10) rfl k) ?_
  obtain ⟨T3, h3, X3, e3, W3, st3⟩ := putF X2 hx hZ hown (host := "") (Or.inl (hw _ (List.mem_of_getElem? (i := 51) rfl))) Via.refl e2 (F_times_a1.other W2 (Or.inr (slot_ne (Or.inr (hw _ (List.mem_of_getElem? (i := 52) rfl))) (Or.inr (hw _ (List.mem_of_getElem? (i := 50) rfl))) (by decide) (t := .int) (t' := (.object "java/util/List")) (by decide) (by decide)))) (E_a1.wr W2) (Or.inr ⟨(hw _ (List.mem_of_getElem? (i := 52) rfl)), rfl, hnm⟩) (hw _ (List.mem_of_getElem? (i := 43) rfl)) (ty := .int) (by decide) rfl rfl (g := (mkF m 11 #[.val (.ref a1), .val (.ref a2), .val (.int p3), .val (.ref a4), .val (.ref a5)] [(.int p3), (.ref a1)])) rfl rfl (hb hby d7_11)
  obtain ⟨Lo3, X3, N3⟩ : ∃ K, Stand p l e R7rr s m #[(.ref a1), (.ref a2), (.int p3), (.ref a4), (.ref a5)] below meth c T3 K 0 0 ∧ Fr n0 K := ⟨_, X3, (Fr.snoc X3 N2 g_a1)⟩
  refine own_step (f' := (mkF m 14 #[.val (.ref a1), .val (.ref a2), .val (.int p3), .val (.ref a4), .val (.ref a5)] [])) st3 ?_
  refine own_step (f' := (mkF m 15 #[.val (.ref a1), .val (.ref a2), .val (.int p3), .val (.ref a4), .val (.ref a5)] [(.ref a1)])) (fun _ k => XS.aloadN X3.here hx rfl (hb hby d7_14) rfl rfl k) ?_
  refine own_step (f' := (mkF m 16 #[.val (.ref a1), .val (.ref a2), .val (.int p3), .val (.ref a4), .val (.ref a5)] [(.ref a4), (.ref a1)])) (fun _ k => XS.aloadN X3.here hx rfl (hb hby d7_15) rfl rfl k) ?_
  obtain ⟨T4, h4, X4, e4, W4, st4⟩ := putF X3 hx hZ hown (host := "") (Or.inl (hw _ (List.mem_of_getElem? (i := 53) rfl))) Via.refl e3 ((F_until_a1.other W2 (Or.inr (slot_ne (Or.inr (hw _ (List.mem_of_getElem? (i := 54) rfl))) (Or.inr (hw _ (List.mem_of_getElem? (i := 50) rfl))) (by decide) (t := (.object "wayfarer/process/RepeatStep$Condition")) (t' := (.object "java/util/List")) (by decide) (by decide)))).other W3 (Or.inr (slot_ne (Or.inr (hw _ (List.mem_of_getElem? (i := 54) rfl))) (Or.inr (hw _ (List.mem_of_getElem? (i := 52) rfl))) (by decide) (t := (.object "wayfarer/process/RepeatStep$Condition")) (t' := .int) (by decide) (by decide)))) ((E_a1.wr W2).wr W3) (Or.inr ⟨(hw _ (List.mem_of_getElem? (i := 54) rfl)), rfl, hnm⟩) (hw _ (List.mem_of_getElem? (i := 43) rfl)) (ty := (.object "wayfarer/process/RepeatStep$Condition")) (by decide) rfl rfl (g := (mkF m 16 #[.val (.ref a1), .val (.ref a2), .val (.int p3), .val (.ref a4), .val (.ref a5)] [(.ref a4), (.ref a1)])) rfl rfl (hb hby d7_16)
  obtain ⟨Lo4, X4, N4⟩ : ∃ K, Stand p l e R7rr s m #[(.ref a1), (.ref a2), (.int p3), (.ref a4), (.ref a5)] below meth c T4 K 0 0 ∧ Fr n0 K := ⟨_, X4, (Fr.snoc X4 N3 g_a1)⟩
  refine own_step (f' := (mkF m 19 #[.val (.ref a1), .val (.ref a2), .val (.int p3), .val (.ref a4), .val (.ref a5)] [])) st4 ?_
  refine own_step (f' := (mkF m 20 #[.val (.ref a1), .val (.ref a2), .val (.int p3), .val (.ref a4), .val (.ref a5)] [(.ref a1)])) (fun _ k => XS.aloadN X4.here hx rfl (hb hby d7_19) rfl rfl k) ?_
  refine own_step (f' := (mkF m 22 #[.val (.ref a1), .val (.ref a2), .val (.int p3), .val (.ref a4), .val (.ref a5)] [(.ref a5), (.ref a1)])) (fun _ k => XS.aload X4.here hx rfl (hb hby d7_20) rfl rfl k) ?_
  obtain ⟨T5, h5, X5, e5, W5, st5⟩ := putF X4 hx hZ hown (host := "") (Or.inl (hw _ (List.mem_of_getElem? (i := 55) rfl))) Via.refl e4 (((F_emit_a1.other W2 (Or.inr (slot_ne (Or.inr (hw _ (List.mem_of_getElem? (i := 56) rfl))) (Or.inr (hw _ (List.mem_of_getElem? (i := 50) rfl))) (by decide) (t := (.object "wayfarer/process/RepeatStep$Condition")) (t' := (.object "java/util/List")) (by decide) (by decide)))).other W3 (Or.inr (slot_ne (Or.inr (hw _ (List.mem_of_getElem? (i := 56) rfl))) (Or.inr (hw _ (List.mem_of_getElem? (i := 52) rfl))) (by decide) (t := (.object "wayfarer/process/RepeatStep$Condition")) (t' := .int) (by decide) (by decide)))).other W4 (Or.inr (slot_ne (Or.inr (hw _ (List.mem_of_getElem? (i := 56) rfl))) (Or.inr (hw _ (List.mem_of_getElem? (i := 54) rfl))) (by decide) (t := (.object "wayfarer/process/RepeatStep$Condition")) (t' := (.object "wayfarer/process/RepeatStep$Condition")) (by decide) (by decide)))) (((E_a1.wr W2).wr W3).wr W4) (Or.inr ⟨(hw _ (List.mem_of_getElem? (i := 56) rfl)), rfl, hnm⟩) (hw _ (List.mem_of_getElem? (i := 43) rfl)) (ty := (.object "wayfarer/process/RepeatStep$Condition")) (by decide) rfl rfl (g := (mkF m 22 #[.val (.ref a1), .val (.ref a2), .val (.int p3), .val (.ref a4), .val (.ref a5)] [(.ref a5), (.ref a1)])) rfl rfl (hb hby d7_22)
  obtain ⟨Lo5, X5, N5⟩ : ∃ K, Stand p l e R7rr s m #[(.ref a1), (.ref a2), (.int p3), (.ref a4), (.ref a5)] below meth c T5 K 0 0 ∧ Fr n0 K := ⟨_, X5, (Fr.snoc X5 N4 g_a1)⟩
  refine own_step (f' := (mkF m 25 #[.val (.ref a1), .val (.ref a2), .val (.int p3), .val (.ref a4), .val (.ref a5)] [])) st5 ?_
  refine own_out (v := none) X5 hlk (fun _ => rfl) (fun fs hr => X5.returnOut hx Bd.returns (hb hby d7_25) hr) (by decide) (by decide) ?_
  rw [e5]
  exact ⟨rfl, N5, (((((Keep.refl h0 [a1]).wr W2 (Or.inl (List.mem_of_getElem? (i := 0) rfl))).wr W3 (Or.inl (List.mem_of_getElem? (i := 0) rfl))).wr W4 (Or.inl (List.mem_of_getElem? (i := 0) rfl))).wr W5 (Or.inl (List.mem_of_getElem? (i := 0) rfl))), ((((E_a1.wr W2).wr W3).wr W4).wr W5), ((((F_body_a1.same W2).other W3 (Or.inr (slot_ne (Or.inr (hw _ (List.mem_of_getElem? (i := 50) rfl))) (Or.inr (hw _ (List.mem_of_getElem? (i := 52) rfl))) (by decide) (t := (.object "java/util/List")) (t' := .int) (by decide) (by decide)))).other W4 (Or.inr (slot_ne (Or.inr (hw _ (List.mem_of_getElem? (i := 50) rfl))) (Or.inr (hw _ (List.mem_of_getElem? (i := 54) rfl))) (by decide) (t := (.object "java/util/List")) (t' := (.object "wayfarer/process/RepeatStep$Condition")) (by decide) (by decide)))).other W5 (Or.inr (slot_ne (Or.inr (hw _ (List.mem_of_getElem? (i := 50) rfl))) (Or.inr (hw _ (List.mem_of_getElem? (i := 56) rfl))) (by decide) (t := (.object "java/util/List")) (t' := (.object "wayfarer/process/RepeatStep$Condition")) (by decide) (by decide)))), ((((F_times_a1.other W2 (Or.inr (slot_ne (Or.inr (hw _ (List.mem_of_getElem? (i := 52) rfl))) (Or.inr (hw _ (List.mem_of_getElem? (i := 50) rfl))) (by decide) (t := .int) (t' := (.object "java/util/List")) (by decide) (by decide)))).same W3).other W4 (Or.inr (slot_ne (Or.inr (hw _ (List.mem_of_getElem? (i := 52) rfl))) (Or.inr (hw _ (List.mem_of_getElem? (i := 54) rfl))) (by decide) (t := .int) (t' := (.object "wayfarer/process/RepeatStep$Condition")) (by decide) (by decide)))).other W5 (Or.inr (slot_ne (Or.inr (hw _ (List.mem_of_getElem? (i := 52) rfl))) (Or.inr (hw _ (List.mem_of_getElem? (i := 56) rfl))) (by decide) (t := .int) (t' := (.object "wayfarer/process/RepeatStep$Condition")) (by decide) (by decide)))), ((((F_until_a1.other W2 (Or.inr (slot_ne (Or.inr (hw _ (List.mem_of_getElem? (i := 54) rfl))) (Or.inr (hw _ (List.mem_of_getElem? (i := 50) rfl))) (by decide) (t := (.object "wayfarer/process/RepeatStep$Condition")) (t' := (.object "java/util/List")) (by decide) (by decide)))).other W3 (Or.inr (slot_ne (Or.inr (hw _ (List.mem_of_getElem? (i := 54) rfl))) (Or.inr (hw _ (List.mem_of_getElem? (i := 52) rfl))) (by decide) (t := (.object "wayfarer/process/RepeatStep$Condition")) (t' := .int) (by decide) (by decide)))).same W4).other W5 (Or.inr (slot_ne (Or.inr (hw _ (List.mem_of_getElem? (i := 54) rfl))) (Or.inr (hw _ (List.mem_of_getElem? (i := 56) rfl))) (by decide) (t := (.object "wayfarer/process/RepeatStep$Condition")) (t' := (.object "wayfarer/process/RepeatStep$Condition")) (by decide) (by decide)))), ((((F_emit_a1.other W2 (Or.inr (slot_ne (Or.inr (hw _ (List.mem_of_getElem? (i := 56) rfl))) (Or.inr (hw _ (List.mem_of_getElem? (i := 50) rfl))) (by decide) (t := (.object "wayfarer/process/RepeatStep$Condition")) (t' := (.object "java/util/List")) (by decide) (by decide)))).other W3 (Or.inr (slot_ne (Or.inr (hw _ (List.mem_of_getElem? (i := 56) rfl))) (Or.inr (hw _ (List.mem_of_getElem? (i := 52) rfl))) (by decide) (t := (.object "wayfarer/process/RepeatStep$Condition")) (t' := .int) (by decide) (by decide)))).other W4 (Or.inr (slot_ne (Or.inr (hw _ (List.mem_of_getElem? (i := 56) rfl))) (Or.inr (hw _ (List.mem_of_getElem? (i := 54) rfl))) (by decide) (t := (.object "wayfarer/process/RepeatStep$Condition")) (t' := (.object "wayfarer/process/RepeatStep$Condition")) (by decide) (by decide)))).same W5)⟩
def own_st0 (t : Int32) : Int32 := if t = (-1 : Int32) then 0 else 1
theorem d8_0 : decode prog_134_method_11_code 0 = .ok (.aload_n 0, 1) := by decide +kernel
theorem d8_1 : decode prog_134_method_11_code 1 = .ok (.getfield 13, 3) := by decide +kernel
theorem d8_4 : decode prog_134_method_11_code 4 = .ok (.iconst (-1), 1) := by decide +kernel
theorem d8_5 : decode prog_134_method_11_code 5 = .ok (.if_icmp .ne 10, 3) := by decide +kernel
theorem d8_8 : decode prog_134_method_11_code 8 = .ok (.aload_n 0, 1) := by decide +kernel
theorem d8_9 : decode prog_134_method_11_code 9 = .ok (.getfield 17, 3) := by decide +kernel
theorem d8_12 : decode prog_134_method_11_code 12 = .ok (.ifnull 7, 3) := by decide +kernel
theorem d8_15 : decode prog_134_method_11_code 15 = .ok (.iconst 1, 1) := by decide +kernel
theorem d8_16 : decode prog_134_method_11_code 16 = .ok (.goto 4, 3) := by decide +kernel
theorem d8_19 : decode prog_134_method_11_code 19 = .ok (.iconst 0, 1) := by decide +kernel
theorem d8_20 : decode prog_134_method_11_code 20 = .ok (.ireturn, 1) := by decide +kernel
theorem ef_8n (m : MethodId) (x0 : Addr) : entryFrame m #[(.ref x0)] 1 = mkF m 0 #[.val (.ref x0)] [] := by first | (simp [entryFrame, mkF, argsToLocals, Value.category]; done) | rfl
def Q8n (Z : State) (a1 : Addr) (p2 : Int32) (h0 : Heap) (n0 : Nat) (v : Option Value) (h : Heap) (L : List Loc) : Prop := v = some (.int (own_st0 p2)) ∧ L = [] ∧ h = h0
abbrev R8n : Room := { frames := 0, cells := 0, slots := 0, locals := 0 }
set_option maxRecDepth 65536 in
set_option maxHeartbeats 40000000 in
theorem rm8n (l : Launch) (Z : State) (a0 : Array Value) (hw : ∀ d ∈ tables_1, d.before a0 Z = true) (ws : List Jvm.Cond) (a1 : Addr) (p2 : Int32) (h0 : Heap) (n0 : Nat) (Z0 : n0 ≤ h0.size) (F_times_a1 : Fld Z h0 a1 "wayfarer/process/RepeatStep" "times" "I" (.int p2)) (F_until_a1 : Fld Z h0 a1 "wayfarer/process/RepeatStep" "until" "Lwayfarer/process/RepeatStep$Condition;" .null) :
    MetFree l (⟨"wayfarer/process/RepeatStep", "stops", "()Z"⟩ : MethodName) (head1 (Jvm.Cond.code (⟨"wayfarer/process/RepeatStep", "stops", "()Z"⟩ : MethodName) prog_134_method_11_code 1 (some .boolean) :: ws) R8n) (fun a U => a = #[(.ref a1)] ∧ Z.Warmed39 U.vm ∧ U.heap = h0) (fun _ _ _ _ _ => True) (fun _ U o U' => ∃ v L, o = .returned v ∧ Q8n Z a1 p2 h0 n0 v U'.heap L ∧ FrameEnd U o U' L R8n.cells R8n.slots) := by
  refine MetFree.of_bodySF (plainFor_of_name pn_5) hisR ?_
  intro p e s m args below meth c s₁ Bd hml0 hP hK
  obtain ⟨rfl, hZ, hh⟩ := hP
  have hx := Bd.exec
  have hby := Bd.bytes
  have hlk : meth.locks = false := BodyLoose.notSynchronized Bd
  have hml : c.maxLocals = 1 := hml0
  have hown : s.vm.findClass "wayfarer/process/RepeatStep" = some m.cls := findClass_of_methodNamed Bd.named
  have hnm := (name_of_methodNamed Bd.named Bd.method).1
  have X0 : Stand p l e R8n s m #[(.ref a1)] below meth c s₁ [] 0 0 := Stand.of_body Bd
  have e0 : s₁.heap = h0 := by rw [← hh, Bd.state]; rfl
  have N0 := Fr.nil n0
  show own_Goes p e below s (Q8n Z a1 p2 h0 n0) R8n.cells R8n.slots s₁ (entryFrame m #[(.ref a1)] 1)
  rw [ef_8n m a1]
  refine own_step (f' := (mkF m 1 #[.val (.ref a1)] [(.ref a1)])) (fun _ k => XS.aloadN X0.here hx rfl (hb hby d8_0) rfl rfl k) ?_
  obtain ⟨T1, X1, e1, st1⟩ := getF X0 hx hZ hown (host := "") (Or.inl (hw _ (List.mem_of_getElem? (i := 51) rfl))) Via.refl e0 F_times_a1 (g := (mkF m 1 #[.val (.ref a1)] [(.ref a1)])) rfl rfl (hb hby d8_1)
  refine own_step (f' := (mkF m 4 #[.val (.ref a1)] [(.int p2)])) st1 ?_
  refine own_step (f' := (mkF m 5 #[.val (.ref a1)] [(.int (-1 : Int32)), (.int p2)])) (fun _ k => XS.iconst X1.here hx rfl (hb hby d8_4) k) ?_
  by_cases hc5_2 : p2 = (-1 : Int32)
  · refine own_step (f' := (mkF m 8 #[.val (.ref a1)] [])) (fun _ k => XS.icmpNo X1.here hx rfl (hb hby d8_5) rfl (teq hc5_2).2 k) ?_
    refine own_step (f' := (mkF m 9 #[.val (.ref a1)] [(.ref a1)])) (fun _ k => XS.aloadN X1.here hx rfl (hb hby d8_8) rfl rfl k) ?_
    obtain ⟨T3, X3, e3, st3⟩ := getF X1 hx hZ hown (host := "") (Or.inl (hw _ (List.mem_of_getElem? (i := 53) rfl))) Via.refl e1 F_until_a1 (g := (mkF m 9 #[.val (.ref a1)] [(.ref a1)])) rfl rfl (hb hby d8_9)
    refine own_step (f' := (mkF m 12 #[.val (.ref a1)] [.null])) st3 ?_
    refine own_step (f' := (mkF m 19 #[.val (.ref a1)] [])) (fun _ k => XS.ifnullYes X3.here hx rfl (pc0 := 12) (pc' := 19) rfl (hb hby d8_12) rfl (by decide) (by decide) k) ?_
    refine own_step (f' := (mkF m 20 #[.val (.ref a1)] [(.int (0 : Int32))])) (fun _ k => XS.iconst X3.here hx rfl (hb hby d8_19) k) ?_
    refine own_out (v := some (.int (0 : Int32))) X3 hlk (fun h => by rw [Bd.returns] at h; cases h) (fun fs hr => retN X3 hx (t := .boolean) Bd.returns (by simp) (hb hby d8_20) hr) (by decide) (by decide) ?_
    rw [e3]
    exact ⟨(by rw [own_st0, if_pos hc5_2]), rfl, rfl⟩
  · refine own_step (f' := (mkF m 15 #[.val (.ref a1)] [])) (fun _ k => XS.icmpYes X1.here hx rfl (pc0 := 5) (pc' := 15) rfl (hb hby d8_5) rfl (feq hc5_2).2 (by decide) (by decide) k) ?_
    refine own_step (f' := (mkF m 16 #[.val (.ref a1)] [(.int (1 : Int32))])) (fun _ k => XS.iconst X1.here hx rfl (hb hby d8_15) k) ?_
    refine own_step (f' := (mkF m 20 #[.val (.ref a1)] [(.int (1 : Int32))])) (fun _ k => XS.goto X1.here hx rfl (pc0 := 16) (pc' := 20) rfl (hb hby d8_16) (by decide) (by decide) k) ?_
    refine own_out (v := some (.int (1 : Int32))) X1 hlk (fun h => by rw [Bd.returns] at h; cases h) (fun fs hr => retN X1 hx (t := .boolean) Bd.returns (by simp) (hb hby d8_20) hr) (by decide) (by decide) ?_
    rw [e1]
    exact ⟨(by rw [own_st0, if_neg hc5_2]), rfl, rfl⟩
theorem ef_8r (m : MethodId) (x0 : Addr) : entryFrame m #[(.ref x0)] 1 = mkF m 0 #[.val (.ref x0)] [] := by first | (simp [entryFrame, mkF, argsToLocals, Value.category]; done) | rfl
def Q8r (Z : State) (a1 : Addr) (p2 : Int32) (a3 : Addr) (h0 : Heap) (n0 : Nat) (v : Option Value) (h : Heap) (L : List Loc) : Prop := v = some (.int (1 : Int32)) ∧ L = [] ∧ h = h0
abbrev R8r : Room := { frames := 0, cells := 0, slots := 0, locals := 0 }
set_option maxRecDepth 65536 in
set_option maxHeartbeats 40000000 in
theorem rm8r (l : Launch) (Z : State) (a0 : Array Value) (hw : ∀ d ∈ tables_1, d.before a0 Z = true) (ws : List Jvm.Cond) (a1 : Addr) (p2 : Int32) (a3 : Addr) (h0 : Heap) (n0 : Nat) (Z0 : n0 ≤ h0.size) (F_times_a1 : Fld Z h0 a1 "wayfarer/process/RepeatStep" "times" "I" (.int p2)) (F_until_a1 : Fld Z h0 a1 "wayfarer/process/RepeatStep" "until" "Lwayfarer/process/RepeatStep$Condition;" (.ref a3)) :
    MetFree l (⟨"wayfarer/process/RepeatStep", "stops", "()Z"⟩ : MethodName) (head1 (Jvm.Cond.code (⟨"wayfarer/process/RepeatStep", "stops", "()Z"⟩ : MethodName) prog_134_method_11_code 1 (some .boolean) :: ws) R8r) (fun a U => a = #[(.ref a1)] ∧ Z.Warmed39 U.vm ∧ U.heap = h0) (fun _ _ _ _ _ => True) (fun _ U o U' => ∃ v L, o = .returned v ∧ Q8r Z a1 p2 a3 h0 n0 v U'.heap L ∧ FrameEnd U o U' L R8r.cells R8r.slots) := by
  refine MetFree.of_bodySF (plainFor_of_name pn_5) hisR ?_
  intro p e s m args below meth c s₁ Bd hml0 hP hK
  obtain ⟨rfl, hZ, hh⟩ := hP
  have hx := Bd.exec
  have hby := Bd.bytes
  have hlk : meth.locks = false := BodyLoose.notSynchronized Bd
  have hml : c.maxLocals = 1 := hml0
  have hown : s.vm.findClass "wayfarer/process/RepeatStep" = some m.cls := findClass_of_methodNamed Bd.named
  have hnm := (name_of_methodNamed Bd.named Bd.method).1
  have X0 : Stand p l e R8r s m #[(.ref a1)] below meth c s₁ [] 0 0 := Stand.of_body Bd
  have e0 : s₁.heap = h0 := by rw [← hh, Bd.state]; rfl
  have N0 := Fr.nil n0
  show own_Goes p e below s (Q8r Z a1 p2 a3 h0 n0) R8r.cells R8r.slots s₁ (entryFrame m #[(.ref a1)] 1)
  rw [ef_8r m a1]
  refine own_step (f' := (mkF m 1 #[.val (.ref a1)] [(.ref a1)])) (fun _ k => XS.aloadN X0.here hx rfl (hb hby d8_0) rfl rfl k) ?_
  obtain ⟨T1, X1, e1, st1⟩ := getF X0 hx hZ hown (host := "") (Or.inl (hw _ (List.mem_of_getElem? (i := 51) rfl))) Via.refl e0 F_times_a1 (g := (mkF m 1 #[.val (.ref a1)] [(.ref a1)])) rfl rfl (hb hby d8_1)
  refine own_step (f' := (mkF m 4 #[.val (.ref a1)] [(.int p2)])) st1 ?_
  refine own_step (f' := (mkF m 5 #[.val (.ref a1)] [(.int (-1 : Int32)), (.int p2)])) (fun _ k => XS.iconst X1.here hx rfl (hb hby d8_4) k) ?_
  by_cases hc5_2 : p2 = (-1 : Int32)
  · refine own_step (f' := (mkF m 8 #[.val (.ref a1)] [])) (fun _ k => XS.icmpNo X1.here hx rfl (hb hby d8_5) rfl (teq hc5_2).2 k) ?_
    refine own_step (f' := (mkF m 9 #[.val (.ref a1)] [(.ref a1)])) (fun _ k => XS.aloadN X1.here hx rfl (hb hby d8_8) rfl rfl k) ?_
    obtain ⟨T3, X3, e3, st3⟩ := getF X1 hx hZ hown (host := "") (Or.inl (hw _ (List.mem_of_getElem? (i := 53) rfl))) Via.refl e1 F_until_a1 (g := (mkF m 9 #[.val (.ref a1)] [(.ref a1)])) rfl rfl (hb hby d8_9)
    refine own_step (f' := (mkF m 12 #[.val (.ref a1)] [(.ref a3)])) st3 ?_
    refine own_step (f' := (mkF m 15 #[.val (.ref a1)] [])) (fun _ k => XS.ifnullNo X3.here hx rfl (hb hby d8_12) rfl k) ?_
    refine own_step (f' := (mkF m 16 #[.val (.ref a1)] [(.int (1 : Int32))])) (fun _ k => XS.iconst X3.here hx rfl (hb hby d8_15) k) ?_
    refine own_step (f' := (mkF m 20 #[.val (.ref a1)] [(.int (1 : Int32))])) (fun _ k => XS.goto X3.here hx rfl (pc0 := 16) (pc' := 20) rfl (hb hby d8_16) (by decide) (by decide) k) ?_
    refine own_out (v := some (.int (1 : Int32))) X3 hlk (fun h => by rw [Bd.returns] at h; cases h) (fun fs hr => retN X3 hx (t := .boolean) Bd.returns (by simp) (hb hby d8_20) hr) (by decide) (by decide) ?_
    rw [e3]
    exact ⟨rfl, rfl, rfl⟩
  · refine own_step (f' := (mkF m 15 #[.val (.ref a1)] [])) (fun _ k => XS.icmpYes X1.here hx rfl (pc0 := 5) (pc' := 15) rfl (hb hby d8_5) rfl (feq hc5_2).2 (by decide) (by decide) k) ?_
    refine own_step (f' := (mkF m 16 #[.val (.ref a1)] [(.int (1 : Int32))])) (fun _ k => XS.iconst X1.here hx rfl (hb hby d8_15) k) ?_
    refine own_step (f' := (mkF m 20 #[.val (.ref a1)] [(.int (1 : Int32))])) (fun _ k => XS.goto X1.here hx rfl (pc0 := 16) (pc' := 20) rfl (hb hby d8_16) (by decide) (by decide) k) ?_
    refine own_out (v := some (.int (1 : Int32))) X1 hlk (fun h => by rw [Bd.returns] at h; cases h) (fun fs hr => retN X1 hx (t := .boolean) Bd.returns (by simp) (hb hby d8_20) hr) (by decide) (by decide) ?_
    rw [e1]
    exact ⟨rfl, rfl, rfl⟩
theorem pd_1 : parseMethodDescriptor "()Z" = some ⟨[], some .boolean⟩ := by decide +kernel
theorem d10_0 : decode prog_134_method_16_code 0 = .ok (.aload_n 0, 1) := by decide +kernel
theorem d10_1 : decode prog_134_method_16_code 1 = .ok (.invokevirtual 84, 3) := by decide +kernel
theorem d10_4 : decode prog_134_method_16_code 4 = .ok (.ifCond .eq 13, 3) := by decide +kernel
theorem d10_17 : decode prog_134_method_16_code 17 = .ok (.return_, 1) := by decide +kernel
theorem ef_10 (m : MethodId) (x0 : Addr) : entryFrame m #[(.ref x0)] 1 = mkF m 0 #[.val (.ref x0)] [] := by first | (simp [entryFrame, mkF, argsToLocals, Value.category]; done) | rfl
def Q10 (Z : State) (a1 : Addr) (p2 : Int32) (h0 : Heap) (n0 : Nat) (v : Option Value) (h : Heap) (L : List Loc) : Prop := v = none ∧ L = [] ∧ h = h0
abbrev R10 : Room := { frames := 1, cells := 0, slots := 0, locals := 12 }
set_option maxRecDepth 65536 in
set_option maxHeartbeats 40000000 in
theorem rm10 (l : Launch) (Z : State) (a0 : Array Value) (hw : ∀ d ∈ tables_1, d.before a0 Z = true) (ws : List Jvm.Cond) (a1 : Addr) (p2 : Int32) (h0 : Heap) (n0 : Nat) (Z0 : n0 ≤ h0.size) (E_a1 : Exa Z h0 a1 "wayfarer/process/RepeatStep") (F_times_a1 : Fld Z h0 a1 "wayfarer/process/RepeatStep" "times" "I" (.int p2)) (F_until_a1 : Fld Z h0 a1 "wayfarer/process/RepeatStep" "until" "Lwayfarer/process/RepeatStep$Condition;" .null) (hp : own_st0 p2 = (0 : Int32)) :
    MetFree l (⟨"wayfarer/process/RepeatStep", "checkNoStop", "()V"⟩ : MethodName) (head1 (Jvm.Cond.code (⟨"wayfarer/process/RepeatStep", "checkNoStop", "()V"⟩ : MethodName) prog_134_method_16_code 1 none :: ws) R10) (fun a U => a = #[(.ref a1)] ∧ Z.Warmed39 U.vm ∧ U.heap = h0) (fun _ _ _ _ _ => True) (fun _ U o U' => ∃ v L, o = .returned v ∧ Q10 Z a1 p2 h0 n0 v U'.heap L ∧ FrameEnd U o U' L R10.cells R10.slots) := by
  refine MetFree.of_bodySF (plainFor_of_name pn_5) hisR ?_
  intro p e s m args below meth c s₁ Bd hml0 hP hK
  obtain ⟨rfl, hZ, hh⟩ := hP
  have hx := Bd.exec
  have hby := Bd.bytes
  have hlk : meth.locks = false := BodyLoose.notSynchronized Bd
  have hml : c.maxLocals = 1 := hml0
  have hown : s.vm.findClass "wayfarer/process/RepeatStep" = some m.cls := findClass_of_methodNamed Bd.named
  have hnm := (name_of_methodNamed Bd.named Bd.method).1
  have X0 : Stand p l e R10 s m #[(.ref a1)] below meth c s₁ [] 0 0 := Stand.of_body Bd
  have e0 : s₁.heap = h0 := by rw [← hh, Bd.state]; rfl
  have N0 := Fr.nil n0
  show own_Goes p e below s (Q10 Z a1 p2 h0 n0) R10.cells R10.slots s₁ (entryFrame m #[(.ref a1)] 1)
  rw [ef_10 m a1]
  refine own_step (f' := (mkF m 1 #[.val (.ref a1)] [(.ref a1)])) (fun _ k => XS.aloadN X0.here hx rfl (hb hby d10_0) rfl rfl k) ?_
  have Zq1 : n0 ≤ h0.size := Z0
  obtain ⟨cq1, kq1, q1a, q1b, q1c⟩ := isOf hZ e0 E_a1
  obtain ⟨_, _, ⟨T1, L1, k1, n1⟩, -, X1, ⟨Lc1, hQ1, l1, y1, z1⟩, st1⟩ := X0.virtualBack hx (y := (⟨"wayfarer/process/RepeatStep", "stops", "()Z"⟩ : MethodName)) (z := (⟨"wayfarer/process/RepeatStep", "stops", "()Z"⟩ : MethodName)) hown (mvT hZ (hw _ (List.mem_of_getElem? (i := 72) rfl))) (mvT hZ (hw _ (List.mem_of_getElem? (i := 58) rfl))) (notFace_of_selects (args := #[]) (mvT hZ (hw _ (List.mem_of_getElem? (i := 60) rfl)))) (mvT hZ (hw _ (List.mem_of_getElem? (i := 60) rfl))) (mvT hZ (hw _ (List.mem_of_getElem? (i := 59) rfl))) (by decide) (backOf (W := 0) (rm8n l Z a0 hw [] a1 p2 h0 n0 Zq1 F_times_a1 F_until_a1) hZ (hw _ (List.mem_of_getElem? (i := 61) rfl)) (hw _ (List.mem_of_getElem? (i := 44) rfl)) (by decide) (by decide)) q1a q1c (g := (mkF m 1 #[.val (.ref a1)] [(.ref a1)])) rfl (by rw [hml]; rfl) (Steps.refl _) (argsL := []) (rest := []) (lenOf pd_1 rfl) rfl (by show 2 * 0 + _ ≤ _; exact Nat.le_of_eq rfl) (hb hby d10_1) (fun _ _ => ⟨rfl, e0, (by decide : 0 + 0 ≤ _), (by decide : 0 + 0 ≤ _)⟩)
  dsimp only [Pt.U, Pt.locs, Pt.cells, Pt.slots] at X1 l1 y1 z1 st1 hQ1
  subst l1 y1 z1
  obtain ⟨rfl, rfl, e1⟩ := hQ1
  try rw [List.append_nil] at X1
  refine own_jump (f' := (mkF m 4 #[.val (.ref a1)] [(.int (own_st0 p2))])) st1 ?_
  have hf4_2 : (own_st0 p2) = (0 : Int32) := hp
  refine own_step (f' := (mkF m 17 #[.val (.ref a1)] [])) (fun _ k => XS.ifYes X1.here hx rfl (pc0 := 4) (pc' := 17) rfl (hb hby d10_4) rfl ((if0 _ _).trans (teq hf4_2).1) (by decide) (by decide) k) ?_
  refine own_out (v := none) X1 hlk (fun _ => rfl) (fun fs hr => X1.returnOut hx Bd.returns (hb hby d10_17) hr) (by decide) (by decide) ?_
  rw [e1]
  exact ⟨rfl, rfl, rfl⟩
theorem pd_2 : parseMethodDescriptor "(Ljava/util/List;ILwayfarer/process/RepeatStep$Condition;Lwayfarer/process/RepeatStep$Condition;)V" = some ⟨[(.object "java/util/List"), .int, (.object "wayfarer/process/RepeatStep$Condition"), (.object "wayfarer/process/RepeatStep$Condition")], none⟩ := by decide +kernel
theorem d9_0 : decode prog_134_method_13_code 0 = .ok (.aload_n 0, 1) := by decide +kernel
theorem d9_1 : decode prog_134_method_13_code 1 = .ok (.invokevirtual 122, 3) := by decide +kernel
theorem d9_4 : decode prog_134_method_13_code 4 = .ok (.new 8, 3) := by decide +kernel
theorem d9_7 : decode prog_134_method_13_code 7 = .ok (.dup, 1) := by decide +kernel
theorem d9_8 : decode prog_134_method_13_code 8 = .ok (.aload_n 0, 1) := by decide +kernel
theorem d9_9 : decode prog_134_method_13_code 9 = .ok (.getfield 7, 3) := by decide +kernel
theorem d9_12 : decode prog_134_method_13_code 12 = .ok (.iload_n 1, 1) := by decide +kernel
theorem d9_13 : decode prog_134_method_13_code 13 = .ok (.aload_n 0, 1) := by decide +kernel
theorem d9_14 : decode prog_134_method_13_code 14 = .ok (.getfield 17, 3) := by decide +kernel
theorem d9_17 : decode prog_134_method_13_code 17 = .ok (.aload_n 0, 1) := by decide +kernel
theorem d9_18 : decode prog_134_method_13_code 18 = .ok (.getfield 21, 3) := by decide +kernel
theorem d9_21 : decode prog_134_method_13_code 21 = .ok (.invokespecial 119, 3) := by decide +kernel
theorem d9_24 : decode prog_134_method_13_code 24 = .ok (.areturn, 1) := by decide +kernel
theorem ef_9n (m : MethodId) (x0 : Addr) (x1 : Int32) : entryFrame m #[(.ref x0), (.int x1)] 2 = mkF m 0 #[.val (.ref x0), .val (.int x1)] [] := by first | (simp [entryFrame, mkF, argsToLocals, Value.category]; done) | rfl
def Q9n (Z : State) (a1 : Addr) (p9 : Int32) (a2 : Addr) (p3 : Int32) (h0 : Heap) (n0 : Nat) (v : Option Value) (h : Heap) (L : List Loc) : Prop := ∃ b : Addr, v = some (.ref b) ∧ n0 ≤ b ∧ h0.size ≤ b ∧ Fr n0 L ∧ Keep h0 h [] ∧ Exa Z h b "wayfarer/process/RepeatStep" ∧ Fld Z h b "wayfarer/process/RepeatStep" "times" "I" (.int p9) ∧ Fld Z h b "wayfarer/process/RepeatStep" "until" "Lwayfarer/process/RepeatStep$Condition;" .null
abbrev R9n : Room := { frames := 3, cells := 1, slots := 4, locals := 41 }
set_option maxRecDepth 65536 in
set_option maxHeartbeats 40000000 in
theorem rm9n (l : Launch) (Z : State) (a0 : Array Value) (hw : ∀ d ∈ tables_1, d.before a0 Z = true) (ws : List Jvm.Cond) (a1 : Addr) (p9 : Int32) (a2 : Addr) (p3 : Int32) (h0 : Heap) (n0 : Nat) (Z0 : n0 ≤ h0.size) (E_a1 : Exa Z h0 a1 "wayfarer/process/RepeatStep") (F_body_a1 : Fld Z h0 a1 "wayfarer/process/RepeatStep" "body" "Ljava/util/List;" (.ref a2)) (F_times_a1 : Fld Z h0 a1 "wayfarer/process/RepeatStep" "times" "I" (.int p3)) (F_until_a1 : Fld Z h0 a1 "wayfarer/process/RepeatStep" "until" "Lwayfarer/process/RepeatStep$Condition;" .null) (F_emit_a1 : Fld Z h0 a1 "wayfarer/process/RepeatStep" "emit" "Lwayfarer/process/RepeatStep$Condition;" .null) (hp : own_st0 p3 = (0 : Int32)) :
    MetFree l (⟨"wayfarer/process/RepeatStep", "withTimes", "(I)Lwayfarer/process/RepeatStep;"⟩ : MethodName) (head1 (Jvm.Cond.code (⟨"wayfarer/process/RepeatStep", "withTimes", "(I)Lwayfarer/process/RepeatStep;"⟩ : MethodName) prog_134_method_13_code 2 (some (.object "wayfarer/process/RepeatStep")) :: ws) R9n) (fun a U => a = #[(.ref a1), (.int p9)] ∧ Z.Warmed39 U.vm ∧ U.heap = h0) (fun _ _ _ _ _ => True) (fun _ U o U' => ∃ v L, o = .returned v ∧ Q9n Z a1 p9 a2 p3 h0 n0 v U'.heap L ∧ FrameEnd U o U' L R9n.cells R9n.slots) := by
  refine MetFree.of_bodySF (plainFor_of_name pn_5) hisR ?_
  intro p e s m args below meth c s₁ Bd hml0 hP hK
  obtain ⟨rfl, hZ, hh⟩ := hP
  have hx := Bd.exec
  have hby := Bd.bytes
  have hlk : meth.locks = false := BodyLoose.notSynchronized Bd
  have hml : c.maxLocals = 2 := hml0
  have hown : s.vm.findClass "wayfarer/process/RepeatStep" = some m.cls := findClass_of_methodNamed Bd.named
  have hnm := (name_of_methodNamed Bd.named Bd.method).1
  have X0 : Stand p l e R9n s m #[(.ref a1), (.int p9)] below meth c s₁ [] 0 0 := Stand.of_body Bd
  have e0 : s₁.heap = h0 := by rw [← hh, Bd.state]; rfl
  have N0 := Fr.nil n0
  show own_Goes p e below s (Q9n Z a1 p9 a2 p3 h0 n0) R9n.cells R9n.slots s₁ (entryFrame m #[(.ref a1), (.int p9)] 2)
  rw [ef_9n m a1 p9]
  refine own_step (f' := (mkF m 1 #[.val (.ref a1), .val (.int p9)] [(.ref a1)])) (fun _ k => XS.aloadN X0.here hx rfl (hb hby d9_0) rfl rfl k) ?_
  have hp1_hp : own_st0 p3 = (0 : Int32) := hp
  have Zq1 : n0 ≤ h0.size := Z0
  obtain ⟨cq1, q1, q1'⟩ := E_a1.cell
  obtain ⟨_, _, ⟨T1, L1, k1, n1⟩, -, X1, ⟨Lc1, hQ1, l1, y1, z1⟩, st1⟩ := X0.privateBack hx (y := (⟨"wayfarer/process/RepeatStep", "checkNoStop", "()V"⟩ : MethodName)) hown (mvT hZ (hw _ (List.mem_of_getElem? (i := 68) rfl))) (mvT hZ (hw _ (List.mem_of_getElem? (i := 69) rfl))) (own_selPriv (y' := (⟨"wayfarer/process/RepeatStep", "stops", "()Z"⟩ : MethodName)) (mvT hZ (hw _ (List.mem_of_getElem? (i := 60) rfl))) rfl (Cond.privateMethod_at (mvP hZ (hw _ (List.mem_of_getElem? (i := 70) rfl)) (args := #[]))) (mvT hZ (hw _ (List.mem_of_getElem? (i := 69) rfl))) (by decide)) (Cond.privateMethod_at (mvP hZ (hw _ (List.mem_of_getElem? (i := 70) rfl)) (args := #[]))) (mvT hZ (hw _ (List.mem_of_getElem? (i := 71) rfl))) (by decide) (backOf (W := 0) (rm10 l Z a0 hw [] a1 p3 h0 n0 Zq1 E_a1 F_times_a1 F_until_a1 hp1_hp) hZ (hw _ (List.mem_of_getElem? (i := 71) rfl)) (hw _ (List.mem_of_getElem? (i := 44) rfl)) (by decide) (by decide)) (g := (mkF m 1 #[.val (.ref a1), .val (.int p9)] [(.ref a1)])) rfl (by rw [hml]; rfl) (Steps.refl _) (a := a1) (by rw [e0]; exact q1) q1' (argsL := []) (rest := []) (lenOf pd_0 rfl) rfl (by show 2 * 0 + _ ≤ _; exact Nat.le_of_eq rfl) (hb hby d9_1) (fun _ _ => ⟨rfl, e0, (by decide : 0 + 0 ≤ _), (by decide : 0 + 0 ≤ _)⟩)
  dsimp only [Pt.U, Pt.locs, Pt.cells, Pt.slots] at X1 l1 y1 z1 st1 hQ1
  subst l1 y1 z1
  obtain ⟨rfl, rfl, e1⟩ := hQ1
  try rw [List.append_nil] at X1
  refine own_jump (f' := (mkF m 4 #[.val (.ref a1), .val (.int p9)] [])) st1 ?_
  obtain ⟨T2, h2, X2, e2, E2, A2, D2, -, st2⟩ := newO X1 hx hZ hown (hw _ (List.mem_of_getElem? (i := 73) rfl)) (hw _ (List.mem_of_getElem? (i := 43) rfl)) (hw _ (List.mem_of_getElem? (i := 44) rfl)) e1 (g := (mkF m 4 #[.val (.ref a1), .val (.int p9)] [])) rfl (hb hby d9_4) (by decide) (by decide)
  obtain ⟨b2, g2⟩ : ∃ z, z = h0.size := ⟨_, rfl⟩
  rw [← g2] at A2 D2 st2
  have ne_a1_b2 : a1 ≠ b2 := Nat.ne_of_lt (Nat.lt_of_lt_of_le E_a1.lt (Nat.le_of_eq g2.symm))
  have g_b2 : n0 ≤ b2 := Nat.le_trans Z0 (Nat.le_of_eq g2.symm)
  have sz_b2 : h0.size ≤ b2 := Nat.le_trans (Keep.refl h0 []).1 (Nat.le_of_eq g2.symm)
  have F_body_b2 : Fld Z h2 b2 "wayfarer/process/RepeatStep" "body" "Ljava/util/List;" .null := D2 (Or.inr (hw _ (List.mem_of_getElem? (i := 50) rfl))) (ty := (.object "java/util/List")) (by decide)
  have F_times_b2 : Fld Z h2 b2 "wayfarer/process/RepeatStep" "times" "I" (.int (0 : Int32)) := D2 (Or.inr (hw _ (List.mem_of_getElem? (i := 52) rfl))) (ty := .int) (by decide)
  have F_until_b2 : Fld Z h2 b2 "wayfarer/process/RepeatStep" "until" "Lwayfarer/process/RepeatStep$Condition;" .null := D2 (Or.inr (hw _ (List.mem_of_getElem? (i := 54) rfl))) (ty := (.object "wayfarer/process/RepeatStep$Condition")) (by decide)
  have F_emit_b2 : Fld Z h2 b2 "wayfarer/process/RepeatStep" "emit" "Lwayfarer/process/RepeatStep$Condition;" .null := D2 (Or.inr (hw _ (List.mem_of_getElem? (i := 56) rfl))) (ty := (.object "wayfarer/process/RepeatStep$Condition")) (by decide)
  refine own_step (f' := (mkF m 7 #[.val (.ref a1), .val (.int p9)] [(.ref b2)])) st2 ?_
  refine own_step (f' := (mkF m 8 #[.val (.ref a1), .val (.int p9)] [(.ref b2), (.ref b2)])) (fun _ k => XS.dup X2.here hx rfl (hb hby d9_7) rfl rfl k) ?_
  refine own_step (f' := (mkF m 9 #[.val (.ref a1), .val (.int p9)] [(.ref a1), (.ref b2), (.ref b2)])) (fun _ k => XS.aloadN X2.here hx rfl (hb hby d9_8) rfl rfl k) ?_
  obtain ⟨T3, X3, e3, st3⟩ := getF X2 hx hZ hown (host := "") (Or.inl (hw _ (List.mem_of_getElem? (i := 49) rfl))) Via.refl e2 (F_body_a1.ext E2) (g := (mkF m 9 #[.val (.ref a1), .val (.int p9)] [(.ref a1), (.ref b2), (.ref b2)])) rfl rfl (hb hby d9_9)
  refine own_step (f' := (mkF m 12 #[.val (.ref a1), .val (.int p9)] [(.ref a2), (.ref b2), (.ref b2)])) st3 ?_
  refine own_step (f' := (mkF m 13 #[.val (.ref a1), .val (.int p9)] [(.int p9), (.ref a2), (.ref b2), (.ref b2)])) (fun _ k => XS.iloadN X3.here hx rfl (hb hby d9_12) rfl k) ?_
  refine own_step (f' := (mkF m 14 #[.val (.ref a1), .val (.int p9)] [(.ref a1), (.int p9), (.ref a2), (.ref b2), (.ref b2)])) (fun _ k => XS.aloadN X3.here hx rfl (hb hby d9_13) rfl rfl k) ?_
  obtain ⟨T4, X4, e4, st4⟩ := getF X3 hx hZ hown (host := "") (Or.inl (hw _ (List.mem_of_getElem? (i := 53) rfl))) Via.refl e3 (F_until_a1.ext E2) (g := (mkF m 14 #[.val (.ref a1), .val (.int p9)] [(.ref a1), (.int p9), (.ref a2), (.ref b2), (.ref b2)])) rfl rfl (hb hby d9_14)
  refine own_step (f' := (mkF m 17 #[.val (.ref a1), .val (.int p9)] [.null, (.int p9), (.ref a2), (.ref b2), (.ref b2)])) st4 ?_
  refine own_step (f' := (mkF m 18 #[.val (.ref a1), .val (.int p9)] [(.ref a1), .null, (.int p9), (.ref a2), (.ref b2), (.ref b2)])) (fun _ k => XS.aloadN X4.here hx rfl (hb hby d9_17) rfl rfl k) ?_
  obtain ⟨T5, X5, e5, st5⟩ := getF X4 hx hZ hown (host := "") (Or.inl (hw _ (List.mem_of_getElem? (i := 55) rfl))) Via.refl e4 (F_emit_a1.ext E2) (g := (mkF m 18 #[.val (.ref a1), .val (.int p9)] [(.ref a1), .null, (.int p9), (.ref a2), (.ref b2), (.ref b2)])) rfl rfl (hb hby d9_18)
  refine own_step (f' := (mkF m 21 #[.val (.ref a1), .val (.int p9)] [.null, .null, (.int p9), (.ref a2), (.ref b2), (.ref b2)])) st5 ?_
  have Zq6 : n0 ≤ h2.size := (Nat.le_trans Z0 E2.1)
  obtain ⟨_, _, ⟨T6, L6, k6, n6⟩, -, X6, ⟨Lc6, hQ6, l6, y6, z6⟩, st6⟩ := X5.specialBack hx (y := (⟨"wayfarer/process/RepeatStep", "<init>", "(Ljava/util/List;ILwayfarer/process/RepeatStep$Condition;Lwayfarer/process/RepeatStep$Condition;)V"⟩ : MethodName)) rfl hown (mvT hZ (hw _ (List.mem_of_getElem? (i := 74) rfl))) (mvT hZ (hw _ (List.mem_of_getElem? (i := 46) rfl))) (mvT hZ (hw _ (List.mem_of_getElem? (i := 47) rfl))) (by decide) (backOf (W := 1) (rm7nn l Z a0 hw [] b2 a2 p9 .null (.int (0 : Int32)) .null .null h2 n0 Zq6 A2 F_body_b2 F_times_b2 F_until_b2 F_emit_b2 g_b2) hZ (hw _ (List.mem_of_getElem? (i := 47) rfl)) (hw _ (List.mem_of_getElem? (i := 44) rfl)) (by decide) (by decide)) (g := (mkF m 21 #[.val (.ref a1), .val (.int p9)] [.null, .null, (.int p9), (.ref a2), (.ref b2), (.ref b2)])) rfl (by rw [hml]; rfl) (Steps.refl _) (a := b2) (argsL := [(.ref a2), (.int p9), .null, .null]) (rest := [(.ref b2)]) (lenOf pd_2 rfl) rfl (by show 2 * 0 + _ ≤ _; exact Nat.le_of_eq rfl) (hb hby d9_21) (fun _ _ => ⟨rfl, e5, (by decide : 1 + 0 ≤ _), (by decide : 4 + 0 ≤ _)⟩)
  dsimp only [Pt.U, Pt.locs, Pt.cells, Pt.slots] at X6 l6 y6 z6 st6 hQ6
  subst l6 y6 z6
  obtain ⟨rfl, Nq6, K6, P6_0, P6_1, P6_2, P6_3, P6_4⟩ := hQ6
  obtain ⟨Lo6, X6, N6⟩ : ∃ K, Stand p l e R9n s m #[(.ref a1), (.int p9)] below meth c T6 K 1 4 ∧ Fr n0 K := ⟨_, X6, (Fr.app N0 Nq6)⟩
  refine own_jump (f' := (mkF m 24 #[.val (.ref a1), .val (.int p9)] [(.ref b2)])) st6 ?_
  refine own_out (v := some (.ref b2)) X6 hlk (fun h => by rw [Bd.returns] at h; cases h) (fun fs hr => retOut X6 hx Bd.returns rfl (Or.inr (Or.inr (Or.inr (Or.inr ⟨rfl, rfl, rfl⟩)))) (hb hby d9_24) hr) (by decide) (by decide) ?_
  exact ⟨b2, rfl, g_b2, sz_b2, N6, (((Keep.refl h0 []).ext E2).trans K6 (allS (Or.inr sz_b2) all0)), P6_0, P6_2, P6_3⟩
theorem d11_0 : decode prog_134_method_14_code 0 = .ok (.aload_n 0, 1) := by decide +kernel
theorem d11_1 : decode prog_134_method_14_code 1 = .ok (.invokevirtual 122, 3) := by decide +kernel
theorem d11_4 : decode prog_134_method_14_code 4 = .ok (.new 8, 3) := by decide +kernel
theorem d11_7 : decode prog_134_method_14_code 7 = .ok (.dup, 1) := by decide +kernel
theorem d11_8 : decode prog_134_method_14_code 8 = .ok (.aload_n 0, 1) := by decide +kernel
theorem d11_9 : decode prog_134_method_14_code 9 = .ok (.getfield 7, 3) := by decide +kernel
theorem d11_12 : decode prog_134_method_14_code 12 = .ok (.aload_n 0, 1) := by decide +kernel
theorem d11_13 : decode prog_134_method_14_code 13 = .ok (.getfield 13, 3) := by decide +kernel
theorem d11_16 : decode prog_134_method_14_code 16 = .ok (.aload_n 1, 1) := by decide +kernel
theorem d11_17 : decode prog_134_method_14_code 17 = .ok (.aload_n 0, 1) := by decide +kernel
theorem d11_18 : decode prog_134_method_14_code 18 = .ok (.getfield 21, 3) := by decide +kernel
theorem d11_21 : decode prog_134_method_14_code 21 = .ok (.invokespecial 119, 3) := by decide +kernel
theorem d11_24 : decode prog_134_method_14_code 24 = .ok (.areturn, 1) := by decide +kernel
theorem ef_11n (m : MethodId) (x0 : Addr) (x1 : Addr) : entryFrame m #[(.ref x0), (.ref x1)] 2 = mkF m 0 #[.val (.ref x0), .val (.ref x1)] [] := by first | (simp [entryFrame, mkF, argsToLocals, Value.category]; done) | rfl
def Q11n (Z : State) (a1 : Addr) (a9 : Addr) (a2 : Addr) (p3 : Int32) (h0 : Heap) (n0 : Nat) (v : Option Value) (h : Heap) (L : List Loc) : Prop := ∃ b : Addr, v = some (.ref b) ∧ n0 ≤ b ∧ h0.size ≤ b ∧ Fr n0 L ∧ Keep h0 h [] ∧ Exa Z h b "wayfarer/process/RepeatStep" ∧ Fld Z h b "wayfarer/process/RepeatStep" "times" "I" (.int p3) ∧ Fld Z h b "wayfarer/process/RepeatStep" "until" "Lwayfarer/process/RepeatStep$Condition;" (.ref a9)
abbrev R11n : Room := { frames := 3, cells := 1, slots := 4, locals := 41 }
set_option maxRecDepth 65536 in
set_option maxHeartbeats 40000000 in
theorem rm11n (l : Launch) (Z : State) (a0 : Array Value) (hw : ∀ d ∈ tables_1, d.before a0 Z = true) (ws : List Jvm.Cond) (a1 : Addr) (a9 : Addr) (a2 : Addr) (p3 : Int32) (h0 : Heap) (n0 : Nat) (Z0 : n0 ≤ h0.size) (E_a1 : Exa Z h0 a1 "wayfarer/process/RepeatStep") (F_body_a1 : Fld Z h0 a1 "wayfarer/process/RepeatStep" "body" "Ljava/util/List;" (.ref a2)) (F_times_a1 : Fld Z h0 a1 "wayfarer/process/RepeatStep" "times" "I" (.int p3)) (F_until_a1 : Fld Z h0 a1 "wayfarer/process/RepeatStep" "until" "Lwayfarer/process/RepeatStep$Condition;" .null) (F_emit_a1 : Fld Z h0 a1 "wayfarer/process/RepeatStep" "emit" "Lwayfarer/process/RepeatStep$Condition;" .null) (hp : own_st0 p3 = (0 : Int32)) :
    MetFree l (⟨"wayfarer/process/RepeatStep", "withUntil", "(Lwayfarer/process/RepeatStep$Condition;)Lwayfarer/process/RepeatStep;"⟩ : MethodName) (head1 (Jvm.Cond.code (⟨"wayfarer/process/RepeatStep", "withUntil", "(Lwayfarer/process/RepeatStep$Condition;)Lwayfarer/process/RepeatStep;"⟩ : MethodName) prog_134_method_14_code 2 (some (.object "wayfarer/process/RepeatStep")) :: ws) R11n) (fun a U => a = #[(.ref a1), (.ref a9)] ∧ Z.Warmed39 U.vm ∧ U.heap = h0) (fun _ _ _ _ _ => True) (fun _ U o U' => ∃ v L, o = .returned v ∧ Q11n Z a1 a9 a2 p3 h0 n0 v U'.heap L ∧ FrameEnd U o U' L R11n.cells R11n.slots) := by
  refine MetFree.of_bodySF (plainFor_of_name pn_5) hisR ?_
  intro p e s m args below meth c s₁ Bd hml0 hP hK
  obtain ⟨rfl, hZ, hh⟩ := hP
  have hx := Bd.exec
  have hby := Bd.bytes
  have hlk : meth.locks = false := BodyLoose.notSynchronized Bd
  have hml : c.maxLocals = 2 := hml0
  have hown : s.vm.findClass "wayfarer/process/RepeatStep" = some m.cls := findClass_of_methodNamed Bd.named
  have hnm := (name_of_methodNamed Bd.named Bd.method).1
  have X0 : Stand p l e R11n s m #[(.ref a1), (.ref a9)] below meth c s₁ [] 0 0 := Stand.of_body Bd
  have e0 : s₁.heap = h0 := by rw [← hh, Bd.state]; rfl
  have N0 := Fr.nil n0
  show own_Goes p e below s (Q11n Z a1 a9 a2 p3 h0 n0) R11n.cells R11n.slots s₁ (entryFrame m #[(.ref a1), (.ref a9)] 2)
  rw [ef_11n m a1 a9]
  refine own_step (f' := (mkF m 1 #[.val (.ref a1), .val (.ref a9)] [(.ref a1)])) (fun _ k => XS.aloadN X0.here hx rfl (hb hby d11_0) rfl rfl k) ?_
  have hp1_hp : own_st0 p3 = (0 : Int32) := hp
  have Zq1 : n0 ≤ h0.size := Z0
  obtain ⟨cq1, q1, q1'⟩ := E_a1.cell
  obtain ⟨_, _, ⟨T1, L1, k1, n1⟩, -, X1, ⟨Lc1, hQ1, l1, y1, z1⟩, st1⟩ := X0.privateBack hx (y := (⟨"wayfarer/process/RepeatStep", "checkNoStop", "()V"⟩ : MethodName)) hown (mvT hZ (hw _ (List.mem_of_getElem? (i := 68) rfl))) (mvT hZ (hw _ (List.mem_of_getElem? (i := 69) rfl))) (own_selPriv (y' := (⟨"wayfarer/process/RepeatStep", "stops", "()Z"⟩ : MethodName)) (mvT hZ (hw _ (List.mem_of_getElem? (i := 60) rfl))) rfl (Cond.privateMethod_at (mvP hZ (hw _ (List.mem_of_getElem? (i := 70) rfl)) (args := #[]))) (mvT hZ (hw _ (List.mem_of_getElem? (i := 69) rfl))) (by decide)) (Cond.privateMethod_at (mvP hZ (hw _ (List.mem_of_getElem? (i := 70) rfl)) (args := #[]))) (mvT hZ (hw _ (List.mem_of_getElem? (i := 71) rfl))) (by decide) (backOf (W := 0) (rm10 l Z a0 hw [] a1 p3 h0 n0 Zq1 E_a1 F_times_a1 F_until_a1 hp1_hp) hZ (hw _ (List.mem_of_getElem? (i := 71) rfl)) (hw _ (List.mem_of_getElem? (i := 44) rfl)) (by decide) (by decide)) (g := (mkF m 1 #[.val (.ref a1), .val (.ref a9)] [(.ref a1)])) rfl (by rw [hml]; rfl) (Steps.refl _) (a := a1) (by rw [e0]; exact q1) q1' (argsL := []) (rest := []) (lenOf pd_0 rfl) rfl (by show 2 * 0 + _ ≤ _; exact Nat.le_of_eq rfl) (hb hby d11_1) (fun _ _ => ⟨rfl, e0, (by decide : 0 + 0 ≤ _), (by decide : 0 + 0 ≤ _)⟩)
  dsimp only [Pt.U, Pt.locs, Pt.cells, Pt.slots] at X1 l1 y1 z1 st1 hQ1
  subst l1 y1 z1
  obtain ⟨rfl, rfl, e1⟩ := hQ1
  try rw [List.append_nil] at X1
  refine own_jump (f' := (mkF m 4 #[.val (.ref a1), .val (.ref a9)] [])) st1 ?_
  obtain ⟨T2, h2, X2, e2, E2, A2, D2, -, st2⟩ := newO X1 hx hZ hown (hw _ (List.mem_of_getElem? (i := 73) rfl)) (hw _ (List.mem_of_getElem? (i := 43) rfl)) (hw _ (List.mem_of_getElem? (i := 44) rfl)) e1 (g := (mkF m 4 #[.val (.ref a1), .val (.ref a9)] [])) rfl (hb hby d11_4) (by decide) (by decide)
  obtain ⟨b2, g2⟩ : ∃ z, z = h0.size := ⟨_, rfl⟩
  rw [← g2] at A2 D2 st2
  have ne_a1_b2 : a1 ≠ b2 := Nat.ne_of_lt (Nat.lt_of_lt_of_le E_a1.lt (Nat.le_of_eq g2.symm))
  have g_b2 : n0 ≤ b2 := Nat.le_trans Z0 (Nat.le_of_eq g2.symm)
  have sz_b2 : h0.size ≤ b2 := Nat.le_trans (Keep.refl h0 []).1 (Nat.le_of_eq g2.symm)
  have F_body_b2 : Fld Z h2 b2 "wayfarer/process/RepeatStep" "body" "Ljava/util/List;" .null := D2 (Or.inr (hw _ (List.mem_of_getElem? (i := 50) rfl))) (ty := (.object "java/util/List")) (by decide)
  have F_times_b2 : Fld Z h2 b2 "wayfarer/process/RepeatStep" "times" "I" (.int (0 : Int32)) := D2 (Or.inr (hw _ (List.mem_of_getElem? (i := 52) rfl))) (ty := .int) (by decide)
  have F_until_b2 : Fld Z h2 b2 "wayfarer/process/RepeatStep" "until" "Lwayfarer/process/RepeatStep$Condition;" .null := D2 (Or.inr (hw _ (List.mem_of_getElem? (i := 54) rfl))) (ty := (.object "wayfarer/process/RepeatStep$Condition")) (by decide)
  have F_emit_b2 : Fld Z h2 b2 "wayfarer/process/RepeatStep" "emit" "Lwayfarer/process/RepeatStep$Condition;" .null := D2 (Or.inr (hw _ (List.mem_of_getElem? (i := 56) rfl))) (ty := (.object "wayfarer/process/RepeatStep$Condition")) (by decide)
  refine own_step (f' := (mkF m 7 #[.val (.ref a1), .val (.ref a9)] [(.ref b2)])) st2 ?_
  refine own_step (f' := (mkF m 8 #[.val (.ref a1), .val (.ref a9)] [(.ref b2), (.ref b2)])) (fun _ k => XS.dup X2.here hx rfl (hb hby d11_7) rfl rfl k) ?_
  refine own_step (f' := (mkF m 9 #[.val (.ref a1), .val (.ref a9)] [(.ref a1), (.ref b2), (.ref b2)])) (fun _ k => XS.aloadN X2.here hx rfl (hb hby d11_8) rfl rfl k) ?_
  obtain ⟨T3, X3, e3, st3⟩ := getF X2 hx hZ hown (host := "") (Or.inl (hw _ (List.mem_of_getElem? (i := 49) rfl))) Via.refl e2 (F_body_a1.ext E2) (g := (mkF m 9 #[.val (.ref a1), .val (.ref a9)] [(.ref a1), (.ref b2), (.ref b2)])) rfl rfl (hb hby d11_9)
  refine own_step (f' := (mkF m 12 #[.val (.ref a1), .val (.ref a9)] [(.ref a2), (.ref b2), (.ref b2)])) st3 ?_
  refine own_step (f' := (mkF m 13 #[.val (.ref a1), .val (.ref a9)] [(.ref a1), (.ref a2), (.ref b2), (.ref b2)])) (fun _ k => XS.aloadN X3.here hx rfl (hb hby d11_12) rfl rfl k) ?_
  obtain ⟨T4, X4, e4, st4⟩ := getF X3 hx hZ hown (host := "") (Or.inl (hw _ (List.mem_of_getElem? (i := 51) rfl))) Via.refl e3 (F_times_a1.ext E2) (g := (mkF m 13 #[.val (.ref a1), .val (.ref a9)] [(.ref a1), (.ref a2), (.ref b2), (.ref b2)])) rfl rfl (hb hby d11_13)
  refine own_step (f' := (mkF m 16 #[.val (.ref a1), .val (.ref a9)] [(.int p3), (.ref a2), (.ref b2), (.ref b2)])) st4 ?_
  refine own_step (f' := (mkF m 17 #[.val (.ref a1), .val (.ref a9)] [(.ref a9), (.int p3), (.ref a2), (.ref b2), (.ref b2)])) (fun _ k => XS.aloadN X4.here hx rfl (hb hby d11_16) rfl rfl k) ?_
  refine own_step (f' := (mkF m 18 #[.val (.ref a1), .val (.ref a9)] [(.ref a1), (.ref a9), (.int p3), (.ref a2), (.ref b2), (.ref b2)])) (fun _ k => XS.aloadN X4.here hx rfl (hb hby d11_17) rfl rfl k) ?_
  obtain ⟨T5, X5, e5, st5⟩ := getF X4 hx hZ hown (host := "") (Or.inl (hw _ (List.mem_of_getElem? (i := 55) rfl))) Via.refl e4 (F_emit_a1.ext E2) (g := (mkF m 18 #[.val (.ref a1), .val (.ref a9)] [(.ref a1), (.ref a9), (.int p3), (.ref a2), (.ref b2), (.ref b2)])) rfl rfl (hb hby d11_18)
  refine own_step (f' := (mkF m 21 #[.val (.ref a1), .val (.ref a9)] [.null, (.ref a9), (.int p3), (.ref a2), (.ref b2), (.ref b2)])) st5 ?_
  have Zq6 : n0 ≤ h2.size := (Nat.le_trans Z0 E2.1)
  obtain ⟨_, _, ⟨T6, L6, k6, n6⟩, -, X6, ⟨Lc6, hQ6, l6, y6, z6⟩, st6⟩ := X5.specialBack hx (y := (⟨"wayfarer/process/RepeatStep", "<init>", "(Ljava/util/List;ILwayfarer/process/RepeatStep$Condition;Lwayfarer/process/RepeatStep$Condition;)V"⟩ : MethodName)) rfl hown (mvT hZ (hw _ (List.mem_of_getElem? (i := 74) rfl))) (mvT hZ (hw _ (List.mem_of_getElem? (i := 46) rfl))) (mvT hZ (hw _ (List.mem_of_getElem? (i := 47) rfl))) (by decide) (backOf (W := 1) (rm7rn l Z a0 hw [] b2 a2 p3 a9 .null (.int (0 : Int32)) .null .null h2 n0 Zq6 A2 F_body_b2 F_times_b2 F_until_b2 F_emit_b2 g_b2) hZ (hw _ (List.mem_of_getElem? (i := 47) rfl)) (hw _ (List.mem_of_getElem? (i := 44) rfl)) (by decide) (by decide)) (g := (mkF m 21 #[.val (.ref a1), .val (.ref a9)] [.null, (.ref a9), (.int p3), (.ref a2), (.ref b2), (.ref b2)])) rfl (by rw [hml]; rfl) (Steps.refl _) (a := b2) (argsL := [(.ref a2), (.int p3), (.ref a9), .null]) (rest := [(.ref b2)]) (lenOf pd_2 rfl) rfl (by show 2 * 0 + _ ≤ _; exact Nat.le_of_eq rfl) (hb hby d11_21) (fun _ _ => ⟨rfl, e5, (by decide : 1 + 0 ≤ _), (by decide : 4 + 0 ≤ _)⟩)
  dsimp only [Pt.U, Pt.locs, Pt.cells, Pt.slots] at X6 l6 y6 z6 st6 hQ6
  subst l6 y6 z6
  obtain ⟨rfl, Nq6, K6, P6_0, P6_1, P6_2, P6_3, P6_4⟩ := hQ6
  obtain ⟨Lo6, X6, N6⟩ : ∃ K, Stand p l e R11n s m #[(.ref a1), (.ref a9)] below meth c T6 K 1 4 ∧ Fr n0 K := ⟨_, X6, (Fr.app N0 Nq6)⟩
  refine own_jump (f' := (mkF m 24 #[.val (.ref a1), .val (.ref a9)] [(.ref b2)])) st6 ?_
  refine own_out (v := some (.ref b2)) X6 hlk (fun h => by rw [Bd.returns] at h; cases h) (fun fs hr => retOut X6 hx Bd.returns rfl (Or.inr (Or.inr (Or.inr (Or.inr ⟨rfl, rfl, rfl⟩)))) (hb hby d11_24) hr) (by decide) (by decide) ?_
  exact ⟨b2, rfl, g_b2, sz_b2, N6, (((Keep.refl h0 []).ext E2).trans K6 (allS (Or.inr sz_b2) all0)), P6_0, P6_2, P6_3⟩
theorem ef_9r (m : MethodId) (x0 : Addr) (x1 : Int32) : entryFrame m #[(.ref x0), (.int x1)] 2 = mkF m 0 #[.val (.ref x0), .val (.int x1)] [] := by first | (simp [entryFrame, mkF, argsToLocals, Value.category]; done) | rfl
def Q9r (Z : State) (a1 : Addr) (p9 : Int32) (a2 : Addr) (p3 : Int32) (a5 : Addr) (h0 : Heap) (n0 : Nat) (v : Option Value) (h : Heap) (L : List Loc) : Prop := ∃ b : Addr, v = some (.ref b) ∧ n0 ≤ b ∧ h0.size ≤ b ∧ Fr n0 L ∧ Keep h0 h [] ∧ Exa Z h b "wayfarer/process/RepeatStep" ∧ Fld Z h b "wayfarer/process/RepeatStep" "times" "I" (.int p9) ∧ Fld Z h b "wayfarer/process/RepeatStep" "until" "Lwayfarer/process/RepeatStep$Condition;" .null
abbrev R9r : Room := { frames := 3, cells := 1, slots := 4, locals := 41 }
set_option maxRecDepth 65536 in
set_option maxHeartbeats 40000000 in
theorem rm9r (l : Launch) (Z : State) (a0 : Array Value) (hw : ∀ d ∈ tables_1, d.before a0 Z = true) (ws : List Jvm.Cond) (a1 : Addr) (p9 : Int32) (a2 : Addr) (p3 : Int32) (a5 : Addr) (h0 : Heap) (n0 : Nat) (Z0 : n0 ≤ h0.size) (E_a1 : Exa Z h0 a1 "wayfarer/process/RepeatStep") (F_body_a1 : Fld Z h0 a1 "wayfarer/process/RepeatStep" "body" "Ljava/util/List;" (.ref a2)) (F_times_a1 : Fld Z h0 a1 "wayfarer/process/RepeatStep" "times" "I" (.int p3)) (F_until_a1 : Fld Z h0 a1 "wayfarer/process/RepeatStep" "until" "Lwayfarer/process/RepeatStep$Condition;" .null) (F_emit_a1 : Fld Z h0 a1 "wayfarer/process/RepeatStep" "emit" "Lwayfarer/process/RepeatStep$Condition;" (.ref a5)) (hp : own_st0 p3 = (0 : Int32)) :
    MetFree l (⟨"wayfarer/process/RepeatStep", "withTimes", "(I)Lwayfarer/process/RepeatStep;"⟩ : MethodName) (head1 (Jvm.Cond.code (⟨"wayfarer/process/RepeatStep", "withTimes", "(I)Lwayfarer/process/RepeatStep;"⟩ : MethodName) prog_134_method_13_code 2 (some (.object "wayfarer/process/RepeatStep")) :: ws) R9r) (fun a U => a = #[(.ref a1), (.int p9)] ∧ Z.Warmed39 U.vm ∧ U.heap = h0) (fun _ _ _ _ _ => True) (fun _ U o U' => ∃ v L, o = .returned v ∧ Q9r Z a1 p9 a2 p3 a5 h0 n0 v U'.heap L ∧ FrameEnd U o U' L R9r.cells R9r.slots) := by
  refine MetFree.of_bodySF (plainFor_of_name pn_5) hisR ?_
  intro p e s m args below meth c s₁ Bd hml0 hP hK
  obtain ⟨rfl, hZ, hh⟩ := hP
  have hx := Bd.exec
  have hby := Bd.bytes
  have hlk : meth.locks = false := BodyLoose.notSynchronized Bd
  have hml : c.maxLocals = 2 := hml0
  have hown : s.vm.findClass "wayfarer/process/RepeatStep" = some m.cls := findClass_of_methodNamed Bd.named
  have hnm := (name_of_methodNamed Bd.named Bd.method).1
  have X0 : Stand p l e R9r s m #[(.ref a1), (.int p9)] below meth c s₁ [] 0 0 := Stand.of_body Bd
  have e0 : s₁.heap = h0 := by rw [← hh, Bd.state]; rfl
  have N0 := Fr.nil n0
  show own_Goes p e below s (Q9r Z a1 p9 a2 p3 a5 h0 n0) R9r.cells R9r.slots s₁ (entryFrame m #[(.ref a1), (.int p9)] 2)
  rw [ef_9r m a1 p9]
  refine own_step (f' := (mkF m 1 #[.val (.ref a1), .val (.int p9)] [(.ref a1)])) (fun _ k => XS.aloadN X0.here hx rfl (hb hby d9_0) rfl rfl k) ?_
  have hp1_hp : own_st0 p3 = (0 : Int32) := hp
  have Zq1 : n0 ≤ h0.size := Z0
  obtain ⟨cq1, q1, q1'⟩ := E_a1.cell
  obtain ⟨_, _, ⟨T1, L1, k1, n1⟩, -, X1, ⟨Lc1, hQ1, l1, y1, z1⟩, st1⟩ := X0.privateBack hx (y := (⟨"wayfarer/process/RepeatStep", "checkNoStop", "()V"⟩ : MethodName)) hown (mvT hZ (hw _ (List.mem_of_getElem? (i := 68) rfl))) (mvT hZ (hw _ (List.mem_of_getElem? (i := 69) rfl))) (own_selPriv (y' := (⟨"wayfarer/process/RepeatStep", "stops", "()Z"⟩ : MethodName)) (mvT hZ (hw _ (List.mem_of_getElem? (i := 60) rfl))) rfl (Cond.privateMethod_at (mvP hZ (hw _ (List.mem_of_getElem? (i := 70) rfl)) (args := #[]))) (mvT hZ (hw _ (List.mem_of_getElem? (i := 69) rfl))) (by decide)) (Cond.privateMethod_at (mvP hZ (hw _ (List.mem_of_getElem? (i := 70) rfl)) (args := #[]))) (mvT hZ (hw _ (List.mem_of_getElem? (i := 71) rfl))) (by decide) (backOf (W := 0) (rm10 l Z a0 hw [] a1 p3 h0 n0 Zq1 E_a1 F_times_a1 F_until_a1 hp1_hp) hZ (hw _ (List.mem_of_getElem? (i := 71) rfl)) (hw _ (List.mem_of_getElem? (i := 44) rfl)) (by decide) (by decide)) (g := (mkF m 1 #[.val (.ref a1), .val (.int p9)] [(.ref a1)])) rfl (by rw [hml]; rfl) (Steps.refl _) (a := a1) (by rw [e0]; exact q1) q1' (argsL := []) (rest := []) (lenOf pd_0 rfl) rfl (by show 2 * 0 + _ ≤ _; exact Nat.le_of_eq rfl) (hb hby d9_1) (fun _ _ => ⟨rfl, e0, (by decide : 0 + 0 ≤ _), (by decide : 0 + 0 ≤ _)⟩)
  dsimp only [Pt.U, Pt.locs, Pt.cells, Pt.slots] at X1 l1 y1 z1 st1 hQ1
  subst l1 y1 z1
  obtain ⟨rfl, rfl, e1⟩ := hQ1
  try rw [List.append_nil] at X1
  refine own_jump (f' := (mkF m 4 #[.val (.ref a1), .val (.int p9)] [])) st1 ?_
  obtain ⟨T2, h2, X2, e2, E2, A2, D2, -, st2⟩ := newO X1 hx hZ hown (hw _ (List.mem_of_getElem? (i := 73) rfl)) (hw _ (List.mem_of_getElem? (i := 43) rfl)) (hw _ (List.mem_of_getElem? (i := 44) rfl)) e1 (g := (mkF m 4 #[.val (.ref a1), .val (.int p9)] [])) rfl (hb hby d9_4) (by decide) (by decide)
  obtain ⟨b2, g2⟩ : ∃ z, z = h0.size := ⟨_, rfl⟩
  rw [← g2] at A2 D2 st2
  have ne_a1_b2 : a1 ≠ b2 := Nat.ne_of_lt (Nat.lt_of_lt_of_le E_a1.lt (Nat.le_of_eq g2.symm))
  have g_b2 : n0 ≤ b2 := Nat.le_trans Z0 (Nat.le_of_eq g2.symm)
  have sz_b2 : h0.size ≤ b2 := Nat.le_trans (Keep.refl h0 []).1 (Nat.le_of_eq g2.symm)
  have F_body_b2 : Fld Z h2 b2 "wayfarer/process/RepeatStep" "body" "Ljava/util/List;" .null := D2 (Or.inr (hw _ (List.mem_of_getElem? (i := 50) rfl))) (ty := (.object "java/util/List")) (by decide)
  have F_times_b2 : Fld Z h2 b2 "wayfarer/process/RepeatStep" "times" "I" (.int (0 : Int32)) := D2 (Or.inr (hw _ (List.mem_of_getElem? (i := 52) rfl))) (ty := .int) (by decide)
  have F_until_b2 : Fld Z h2 b2 "wayfarer/process/RepeatStep" "until" "Lwayfarer/process/RepeatStep$Condition;" .null := D2 (Or.inr (hw _ (List.mem_of_getElem? (i := 54) rfl))) (ty := (.object "wayfarer/process/RepeatStep$Condition")) (by decide)
  have F_emit_b2 : Fld Z h2 b2 "wayfarer/process/RepeatStep" "emit" "Lwayfarer/process/RepeatStep$Condition;" .null := D2 (Or.inr (hw _ (List.mem_of_getElem? (i := 56) rfl))) (ty := (.object "wayfarer/process/RepeatStep$Condition")) (by decide)
  refine own_step (f' := (mkF m 7 #[.val (.ref a1), .val (.int p9)] [(.ref b2)])) st2 ?_
  refine own_step (f' := (mkF m 8 #[.val (.ref a1), .val (.int p9)] [(.ref b2), (.ref b2)])) (fun _ k => XS.dup X2.here hx rfl (hb hby d9_7) rfl rfl k) ?_
  refine own_step (f' := (mkF m 9 #[.val (.ref a1), .val (.int p9)] [(.ref a1), (.ref b2), (.ref b2)])) (fun _ k => XS.aloadN X2.here hx rfl (hb hby d9_8) rfl rfl k) ?_
  obtain ⟨T3, X3, e3, st3⟩ := getF X2 hx hZ hown (host := "") (Or.inl (hw _ (List.mem_of_getElem? (i := 49) rfl))) Via.refl e2 (F_body_a1.ext E2) (g := (mkF m 9 #[.val (.ref a1), .val (.int p9)] [(.ref a1), (.ref b2), (.ref b2)])) rfl rfl (hb hby d9_9)
  refine own_step (f' := (mkF m 12 #[.val (.ref a1), .val (.int p9)] [(.ref a2), (.ref b2), (.ref b2)])) st3 ?_
  refine own_step (f' := (mkF m 13 #[.val (.ref a1), .val (.int p9)] [(.int p9), (.ref a2), (.ref b2), (.ref b2)])) (fun _ k => XS.iloadN X3.here hx rfl (hb hby d9_12) rfl k) ?_
  refine own_step (f' := (mkF m 14 #[.val (.ref a1), .val (.int p9)] [(.ref a1), (.int p9), (.ref a2), (.ref b2), (.ref b2)])) (fun _ k => XS.aloadN X3.here hx rfl (hb hby d9_13) rfl rfl k) ?_
  obtain ⟨T4, X4, e4, st4⟩ := getF X3 hx hZ hown (host := "") (Or.inl (hw _ (List.mem_of_getElem? (i := 53) rfl))) Via.refl e3 (F_until_a1.ext E2) (g := (mkF m 14 #[.val (.ref a1), .val (.int p9)] [(.ref a1), (.int p9), (.ref a2), (.ref b2), (.ref b2)])) rfl rfl (hb hby d9_14)
  refine own_step (f' := (mkF m 17 #[.val (.ref a1), .val (.int p9)] [.null, (.int p9), (.ref a2), (.ref b2), (.ref b2)])) st4 ?_
  refine own_step (f' := (mkF m 18 #[.val (.ref a1), .val (.int p9)] [(.ref a1), .null, (.int p9), (.ref a2), (.ref b2), (.ref b2)])) (fun _ k => XS.aloadN X4.here hx rfl (hb hby d9_17) rfl rfl k) ?_
  obtain ⟨T5, X5, e5, st5⟩ := getF X4 hx hZ hown (host := "") (Or.inl (hw _ (List.mem_of_getElem? (i := 55) rfl))) Via.refl e4 (F_emit_a1.ext E2) (g := (mkF m 18 #[.val (.ref a1), .val (.int p9)] [(.ref a1), .null, (.int p9), (.ref a2), (.ref b2), (.ref b2)])) rfl rfl (hb hby d9_18)
  refine own_step (f' := (mkF m 21 #[.val (.ref a1), .val (.int p9)] [(.ref a5), .null, (.int p9), (.ref a2), (.ref b2), (.ref b2)])) st5 ?_
  have Zq6 : n0 ≤ h2.size := (Nat.le_trans Z0 E2.1)
  obtain ⟨_, _, ⟨T6, L6, k6, n6⟩, -, X6, ⟨Lc6, hQ6, l6, y6, z6⟩, st6⟩ := X5.specialBack hx (y := (⟨"wayfarer/process/RepeatStep", "<init>", "(Ljava/util/List;ILwayfarer/process/RepeatStep$Condition;Lwayfarer/process/RepeatStep$Condition;)V"⟩ : MethodName)) rfl hown (mvT hZ (hw _ (List.mem_of_getElem? (i := 74) rfl))) (mvT hZ (hw _ (List.mem_of_getElem? (i := 46) rfl))) (mvT hZ (hw _ (List.mem_of_getElem? (i := 47) rfl))) (by decide) (backOf (W := 1) (rm7nr l Z a0 hw [] b2 a2 p9 a5 .null (.int (0 : Int32)) .null .null h2 n0 Zq6 A2 F_body_b2 F_times_b2 F_until_b2 F_emit_b2 g_b2) hZ (hw _ (List.mem_of_getElem? (i := 47) rfl)) (hw _ (List.mem_of_getElem? (i := 44) rfl)) (by decide) (by decide)) (g := (mkF m 21 #[.val (.ref a1), .val (.int p9)] [(.ref a5), .null, (.int p9), (.ref a2), (.ref b2), (.ref b2)])) rfl (by rw [hml]; rfl) (Steps.refl _) (a := b2) (argsL := [(.ref a2), (.int p9), .null, (.ref a5)]) (rest := [(.ref b2)]) (lenOf pd_2 rfl) rfl (by show 2 * 0 + _ ≤ _; exact Nat.le_of_eq rfl) (hb hby d9_21) (fun _ _ => ⟨rfl, e5, (by decide : 1 + 0 ≤ _), (by decide : 4 + 0 ≤ _)⟩)
  dsimp only [Pt.U, Pt.locs, Pt.cells, Pt.slots] at X6 l6 y6 z6 st6 hQ6
  subst l6 y6 z6
  obtain ⟨rfl, Nq6, K6, P6_0, P6_1, P6_2, P6_3, P6_4⟩ := hQ6
  obtain ⟨Lo6, X6, N6⟩ : ∃ K, Stand p l e R9r s m #[(.ref a1), (.int p9)] below meth c T6 K 1 4 ∧ Fr n0 K := ⟨_, X6, (Fr.app N0 Nq6)⟩
  refine own_jump (f' := (mkF m 24 #[.val (.ref a1), .val (.int p9)] [(.ref b2)])) st6 ?_
  refine own_out (v := some (.ref b2)) X6 hlk (fun h => by rw [Bd.returns] at h; cases h) (fun fs hr => retOut X6 hx Bd.returns rfl (Or.inr (Or.inr (Or.inr (Or.inr ⟨rfl, rfl, rfl⟩)))) (hb hby d9_24) hr) (by decide) (by decide) ?_
  exact ⟨b2, rfl, g_b2, sz_b2, N6, (((Keep.refl h0 []).ext E2).trans K6 (allS (Or.inr sz_b2) all0)), P6_0, P6_2, P6_3⟩
theorem ef_11r (m : MethodId) (x0 : Addr) (x1 : Addr) : entryFrame m #[(.ref x0), (.ref x1)] 2 = mkF m 0 #[.val (.ref x0), .val (.ref x1)] [] := by first | (simp [entryFrame, mkF, argsToLocals, Value.category]; done) | rfl
def Q11r (Z : State) (a1 : Addr) (a9 : Addr) (a2 : Addr) (p3 : Int32) (a5 : Addr) (h0 : Heap) (n0 : Nat) (v : Option Value) (h : Heap) (L : List Loc) : Prop := ∃ b : Addr, v = some (.ref b) ∧ n0 ≤ b ∧ h0.size ≤ b ∧ Fr n0 L ∧ Keep h0 h [] ∧ Exa Z h b "wayfarer/process/RepeatStep" ∧ Fld Z h b "wayfarer/process/RepeatStep" "times" "I" (.int p3) ∧ Fld Z h b "wayfarer/process/RepeatStep" "until" "Lwayfarer/process/RepeatStep$Condition;" (.ref a9)
abbrev R11r : Room := { frames := 3, cells := 1, slots := 4, locals := 41 }
set_option maxRecDepth 65536 in
set_option maxHeartbeats 40000000 in
theorem rm11r (l : Launch) (Z : State) (a0 : Array Value) (hw : ∀ d ∈ tables_1, d.before a0 Z = true) (ws : List Jvm.Cond) (a1 : Addr) (a9 : Addr) (a2 : Addr) (p3 : Int32) (a5 : Addr) (h0 : Heap) (n0 : Nat) (Z0 : n0 ≤ h0.size) (E_a1 : Exa Z h0 a1 "wayfarer/process/RepeatStep") (F_body_a1 : Fld Z h0 a1 "wayfarer/process/RepeatStep" "body" "Ljava/util/List;" (.ref a2)) (F_times_a1 : Fld Z h0 a1 "wayfarer/process/RepeatStep" "times" "I" (.int p3)) (F_until_a1 : Fld Z h0 a1 "wayfarer/process/RepeatStep" "until" "Lwayfarer/process/RepeatStep$Condition;" .null) (F_emit_a1 : Fld Z h0 a1 "wayfarer/process/RepeatStep" "emit" "Lwayfarer/process/RepeatStep$Condition;" (.ref a5)) (hp : own_st0 p3 = (0 : Int32)) :
    MetFree l (⟨"wayfarer/process/RepeatStep", "withUntil", "(Lwayfarer/process/RepeatStep$Condition;)Lwayfarer/process/RepeatStep;"⟩ : MethodName) (head1 (Jvm.Cond.code (⟨"wayfarer/process/RepeatStep", "withUntil", "(Lwayfarer/process/RepeatStep$Condition;)Lwayfarer/process/RepeatStep;"⟩ : MethodName) prog_134_method_14_code 2 (some (.object "wayfarer/process/RepeatStep")) :: ws) R11r) (fun a U => a = #[(.ref a1), (.ref a9)] ∧ Z.Warmed39 U.vm ∧ U.heap = h0) (fun _ _ _ _ _ => True) (fun _ U o U' => ∃ v L, o = .returned v ∧ Q11r Z a1 a9 a2 p3 a5 h0 n0 v U'.heap L ∧ FrameEnd U o U' L R11r.cells R11r.slots) := by
  refine MetFree.of_bodySF (plainFor_of_name pn_5) hisR ?_
  intro p e s m args below meth c s₁ Bd hml0 hP hK
  obtain ⟨rfl, hZ, hh⟩ := hP
  have hx := Bd.exec
  have hby := Bd.bytes
  have hlk : meth.locks = false := BodyLoose.notSynchronized Bd
  have hml : c.maxLocals = 2 := hml0
  have hown : s.vm.findClass "wayfarer/process/RepeatStep" = some m.cls := findClass_of_methodNamed Bd.named
  have hnm := (name_of_methodNamed Bd.named Bd.method).1
  have X0 : Stand p l e R11r s m #[(.ref a1), (.ref a9)] below meth c s₁ [] 0 0 := Stand.of_body Bd
  have e0 : s₁.heap = h0 := by rw [← hh, Bd.state]; rfl
  have N0 := Fr.nil n0
  show own_Goes p e below s (Q11r Z a1 a9 a2 p3 a5 h0 n0) R11r.cells R11r.slots s₁ (entryFrame m #[(.ref a1), (.ref a9)] 2)
  rw [ef_11r m a1 a9]
  refine own_step (f' := (mkF m 1 #[.val (.ref a1), .val (.ref a9)] [(.ref a1)])) (fun _ k => XS.aloadN X0.here hx rfl (hb hby d11_0) rfl rfl k) ?_
  have hp1_hp : own_st0 p3 = (0 : Int32) := hp
  have Zq1 : n0 ≤ h0.size := Z0
  obtain ⟨cq1, q1, q1'⟩ := E_a1.cell
  obtain ⟨_, _, ⟨T1, L1, k1, n1⟩, -, X1, ⟨Lc1, hQ1, l1, y1, z1⟩, st1⟩ := X0.privateBack hx (y := (⟨"wayfarer/process/RepeatStep", "checkNoStop", "()V"⟩ : MethodName)) hown (mvT hZ (hw _ (List.mem_of_getElem? (i := 68) rfl))) (mvT hZ (hw _ (List.mem_of_getElem? (i := 69) rfl))) (own_selPriv (y' := (⟨"wayfarer/process/RepeatStep", "stops", "()Z"⟩ : MethodName)) (mvT hZ (hw _ (List.mem_of_getElem? (i := 60) rfl))) rfl (Cond.privateMethod_at (mvP hZ (hw _ (List.mem_of_getElem? (i := 70) rfl)) (args := #[]))) (mvT hZ (hw _ (List.mem_of_getElem? (i := 69) rfl))) (by decide)) (Cond.privateMethod_at (mvP hZ (hw _ (List.mem_of_getElem? (i := 70) rfl)) (args := #[]))) (mvT hZ (hw _ (List.mem_of_getElem? (i := 71) rfl))) (by decide) (backOf (W := 0) (rm10 l Z a0 hw [] a1 p3 h0 n0 Zq1 E_a1 F_times_a1 F_until_a1 hp1_hp) hZ (hw _ (List.mem_of_getElem? (i := 71) rfl)) (hw _ (List.mem_of_getElem? (i := 44) rfl)) (by decide) (by decide)) (g := (mkF m 1 #[.val (.ref a1), .val (.ref a9)] [(.ref a1)])) rfl (by rw [hml]; rfl) (Steps.refl _) (a := a1) (by rw [e0]; exact q1) q1' (argsL := []) (rest := []) (lenOf pd_0 rfl) rfl (by show 2 * 0 + _ ≤ _; exact Nat.le_of_eq rfl) (hb hby d11_1) (fun _ _ => ⟨rfl, e0, (by decide : 0 + 0 ≤ _), (by decide : 0 + 0 ≤ _)⟩)
  dsimp only [Pt.U, Pt.locs, Pt.cells, Pt.slots] at X1 l1 y1 z1 st1 hQ1
  subst l1 y1 z1
  obtain ⟨rfl, rfl, e1⟩ := hQ1
  try rw [List.append_nil] at X1
  refine own_jump (f' := (mkF m 4 #[.val (.ref a1), .val (.ref a9)] [])) st1 ?_
  obtain ⟨T2, h2, X2, e2, E2, A2, D2, -, st2⟩ := newO X1 hx hZ hown (hw _ (List.mem_of_getElem? (i := 73) rfl)) (hw _ (List.mem_of_getElem? (i := 43) rfl)) (hw _ (List.mem_of_getElem? (i := 44) rfl)) e1 (g := (mkF m 4 #[.val (.ref a1), .val (.ref a9)] [])) rfl (hb hby d11_4) (by decide) (by decide)
  obtain ⟨b2, g2⟩ : ∃ z, z = h0.size := ⟨_, rfl⟩
  rw [← g2] at A2 D2 st2
  have ne_a1_b2 : a1 ≠ b2 := Nat.ne_of_lt (Nat.lt_of_lt_of_le E_a1.lt (Nat.le_of_eq g2.symm))
  have g_b2 : n0 ≤ b2 := Nat.le_trans Z0 (Nat.le_of_eq g2.symm)
  have sz_b2 : h0.size ≤ b2 := Nat.le_trans (Keep.refl h0 []).1 (Nat.le_of_eq g2.symm)
  have F_body_b2 : Fld Z h2 b2 "wayfarer/process/RepeatStep" "body" "Ljava/util/List;" .null := D2 (Or.inr (hw _ (List.mem_of_getElem? (i := 50) rfl))) (ty := (.object "java/util/List")) (by decide)
  have F_times_b2 : Fld Z h2 b2 "wayfarer/process/RepeatStep" "times" "I" (.int (0 : Int32)) := D2 (Or.inr (hw _ (List.mem_of_getElem? (i := 52) rfl))) (ty := .int) (by decide)
  have F_until_b2 : Fld Z h2 b2 "wayfarer/process/RepeatStep" "until" "Lwayfarer/process/RepeatStep$Condition;" .null := D2 (Or.inr (hw _ (List.mem_of_getElem? (i := 54) rfl))) (ty := (.object "wayfarer/process/RepeatStep$Condition")) (by decide)
  have F_emit_b2 : Fld Z h2 b2 "wayfarer/process/RepeatStep" "emit" "Lwayfarer/process/RepeatStep$Condition;" .null := D2 (Or.inr (hw _ (List.mem_of_getElem? (i := 56) rfl))) (ty := (.object "wayfarer/process/RepeatStep$Condition")) (by decide)
  refine own_step (f' := (mkF m 7 #[.val (.ref a1), .val (.ref a9)] [(.ref b2)])) st2 ?_
  refine own_step (f' := (mkF m 8 #[.val (.ref a1), .val (.ref a9)] [(.ref b2), (.ref b2)])) (fun _ k => XS.dup X2.here hx rfl (hb hby d11_7) rfl rfl k) ?_
  refine own_step (f' := (mkF m 9 #[.val (.ref a1), .val (.ref a9)] [(.ref a1), (.ref b2), (.ref b2)])) (fun _ k => XS.aloadN X2.here hx rfl (hb hby d11_8) rfl rfl k) ?_
  obtain ⟨T3, X3, e3, st3⟩ := getF X2 hx hZ hown (host := "") (Or.inl (hw _ (List.mem_of_getElem? (i := 49) rfl))) Via.refl e2 (F_body_a1.ext E2) (g := (mkF m 9 #[.val (.ref a1), .val (.ref a9)] [(.ref a1), (.ref b2), (.ref b2)])) rfl rfl (hb hby d11_9)
  refine own_step (f' := (mkF m 12 #[.val (.ref a1), .val (.ref a9)] [(.ref a2), (.ref b2), (.ref b2)])) st3 ?_
  refine own_step (f' := (mkF m 13 #[.val (.ref a1), .val (.ref a9)] [(.ref a1), (.ref a2), (.ref b2), (.ref b2)])) (fun _ k => XS.aloadN X3.here hx rfl (hb hby d11_12) rfl rfl k) ?_
  obtain ⟨T4, X4, e4, st4⟩ := getF X3 hx hZ hown (host := "") (Or.inl (hw _ (List.mem_of_getElem? (i := 51) rfl))) Via.refl e3 (F_times_a1.ext E2) (g := (mkF m 13 #[.val (.ref a1), .val (.ref a9)] [(.ref a1), (.ref a2), (.ref b2), (.ref b2)])) rfl rfl (hb hby d11_13)
  refine own_step (f' := (mkF m 16 #[.val (.ref a1), .val (.ref a9)] [(.int p3), (.ref a2), (.ref b2), (.ref b2)])) st4 ?_
  refine own_step (f' := (mkF m 17 #[.val (.ref a1), .val (.ref a9)] [(.ref a9), (.int p3), (.ref a2), (.ref b2), (.ref b2)])) (fun _ k => XS.aloadN X4.here hx rfl (hb hby d11_16) rfl rfl k) ?_
  refine own_step (f' := (mkF m 18 #[.val (.ref a1), .val (.ref a9)] [(.ref a1), (.ref a9), (.int p3), (.ref a2), (.ref b2), (.ref b2)])) (fun _ k => XS.aloadN X4.here hx rfl (hb hby d11_17) rfl rfl k) ?_
  obtain ⟨T5, X5, e5, st5⟩ := getF X4 hx hZ hown (host := "") (Or.inl (hw _ (List.mem_of_getElem? (i := 55) rfl))) Via.refl e4 (F_emit_a1.ext E2) (g := (mkF m 18 #[.val (.ref a1), .val (.ref a9)] [(.ref a1), (.ref a9), (.int p3), (.ref a2), (.ref b2), (.ref b2)])) rfl rfl (hb hby d11_18)
  refine own_step (f' := (mkF m 21 #[.val (.ref a1), .val (.ref a9)] [(.ref a5), (.ref a9), (.int p3), (.ref a2), (.ref b2), (.ref b2)])) st5 ?_
  have Zq6 : n0 ≤ h2.size := (Nat.le_trans Z0 E2.1)
  obtain ⟨_, _, ⟨T6, L6, k6, n6⟩, -, X6, ⟨Lc6, hQ6, l6, y6, z6⟩, st6⟩ := X5.specialBack hx (y := (⟨"wayfarer/process/RepeatStep", "<init>", "(Ljava/util/List;ILwayfarer/process/RepeatStep$Condition;Lwayfarer/process/RepeatStep$Condition;)V"⟩ : MethodName)) rfl hown (mvT hZ (hw _ (List.mem_of_getElem? (i := 74) rfl))) (mvT hZ (hw _ (List.mem_of_getElem? (i := 46) rfl))) (mvT hZ (hw _ (List.mem_of_getElem? (i := 47) rfl))) (by decide) (backOf (W := 1) (rm7rr l Z a0 hw [] b2 a2 p3 a9 a5 .null (.int (0 : Int32)) .null .null h2 n0 Zq6 A2 F_body_b2 F_times_b2 F_until_b2 F_emit_b2 g_b2) hZ (hw _ (List.mem_of_getElem? (i := 47) rfl)) (hw _ (List.mem_of_getElem? (i := 44) rfl)) (by decide) (by decide)) (g := (mkF m 21 #[.val (.ref a1), .val (.ref a9)] [(.ref a5), (.ref a9), (.int p3), (.ref a2), (.ref b2), (.ref b2)])) rfl (by rw [hml]; rfl) (Steps.refl _) (a := b2) (argsL := [(.ref a2), (.int p3), (.ref a9), (.ref a5)]) (rest := [(.ref b2)]) (lenOf pd_2 rfl) rfl (by show 2 * 0 + _ ≤ _; exact Nat.le_of_eq rfl) (hb hby d11_21) (fun _ _ => ⟨rfl, e5, (by decide : 1 + 0 ≤ _), (by decide : 4 + 0 ≤ _)⟩)
  dsimp only [Pt.U, Pt.locs, Pt.cells, Pt.slots] at X6 l6 y6 z6 st6 hQ6
  subst l6 y6 z6
  obtain ⟨rfl, Nq6, K6, P6_0, P6_1, P6_2, P6_3, P6_4⟩ := hQ6
  obtain ⟨Lo6, X6, N6⟩ : ∃ K, Stand p l e R11r s m #[(.ref a1), (.ref a9)] below meth c T6 K 1 4 ∧ Fr n0 K := ⟨_, X6, (Fr.app N0 Nq6)⟩
  refine own_jump (f' := (mkF m 24 #[.val (.ref a1), .val (.ref a9)] [(.ref b2)])) st6 ?_
  refine own_out (v := some (.ref b2)) X6 hlk (fun h => by rw [Bd.returns] at h; cases h) (fun fs hr => retOut X6 hx Bd.returns rfl (Or.inr (Or.inr (Or.inr (Or.inr ⟨rfl, rfl, rfl⟩)))) (hb hby d11_24) hr) (by decide) (by decide) ?_
  exact ⟨b2, rfl, g_b2, sz_b2, N6, (((Keep.refl h0 []).ext E2).trans K6 (allS (Or.inr sz_b2) all0)), P6_0, P6_2, P6_3⟩
theorem own_m (k : Int32) : ¬ (own_st0 (k &&& (2147483647 : Int32)) = (0 : Int32)) := by
  have h1 := c_mask k 2147483647 31 (by decide) (by decide)
  have h2 : ¬ (k &&& (2147483647 : Int32)) = (-1 : Int32) := by
    rw [← Int32.toInt_inj]
    have e : (-1 : Int32).toInt = -1 := by decide
    omega
  unfold own_st0
  rw [if_neg h2]
  decide
theorem own_e0 (t u v : Int32) (hu : u = 0) (hv : v = if t = (-1 : Int32) then (if u = (0 : Int32) then (0 : Int32) else (1 : Int32)) else (1 : Int32)) : own_st0 t = v := by
  subst hv; rw [if_pos hu]; rfl
theorem own_e1 (t u v : Int32) (hu : ¬ u = 0) (hv : v = if t = (-1 : Int32) then (if u = (0 : Int32) then (0 : Int32) else (1 : Int32)) else (1 : Int32)) : (1 : Int32) = v := by
  subst hv; rw [if_neg hu]; split <;> rfl
theorem pd_3 : parseMethodDescriptor "(I)Lwayfarer/process/RepeatStep;" = some ⟨[.int], some (.object "wayfarer/process/RepeatStep")⟩ := by decide +kernel
theorem pd_4 : parseMethodDescriptor "(Ljava/util/List;Z)V" = some ⟨[(.object "java/util/List"), .boolean], none⟩ := by decide +kernel
theorem pd_5 : parseMethodDescriptor "(Lwayfarer/process/RepeatStep$Condition;)Lwayfarer/process/RepeatStep;" = some ⟨[(.object "wayfarer/process/RepeatStep$Condition")], some (.object "wayfarer/process/RepeatStep")⟩ := by decide +kernel
theorem pn_6 : plainName "wayfarer/process/RepeatStepStopsPinLaw" = true := by first | (simp [plainName, overriddenIn]; done) | decide +kernel
theorem ef_0 (m : MethodId) (x0 : Int32) (x1 : Int32) (x2 : Int32) : entryFrame m #[(.int x0), (.int x1), (.int x2)] maxLocals = mkF m 0 #[.val (.int x0), .val (.int x1), .val (.int x2), .unset, .unset, .unset, .unset, .unset, .unset, .unset, .unset, .unset, .unset, .unset, .unset] [] := by first | (simp [entryFrame, mkF, argsToLocals, Value.category, maxLocals]; done) | rfl
def Q0 (Z : State) (i1 : Int32) (i2 : Int32) (i3 : Int32) (w1 : Addr) (h0 : Heap) (n0 : Nat) (v : Option Value) (h : Heap) (L : List Loc) : Prop := v = some (.int 1) ∧ Fr n0 L
set_option maxRecDepth 65536 in
set_option maxHeartbeats 40000000 in
theorem rm0 (l : Launch) (Z : State) (a0 : Array Value) (hw : ∀ d ∈ tables_1, d.before a0 Z = true) (ws : List Jvm.Cond) (i1 : Int32) (i2 : Int32) (i3 : Int32) (w1 : Addr) (h0 : Heap) (n0 : Nat) (Z0 : n0 ≤ h0.size) (S_DEFAULTCAPACITY_EMPTY_ELEMENTDATA : Sta Z h0 "java/util/ArrayList" "DEFAULTCAPACITY_EMPTY_ELEMENTDATA" "[Ljava/lang/Object;" (.ref w1)) :
    MetFree l x (head1 (Jvm.Cond.code x code maxLocals ret :: ws) room_1) (fun a U => a = #[(.int i1), (.int i2), (.int i3)] ∧ Z.Warmed39 U.vm ∧ U.heap = h0) (fun _ _ _ _ _ => True) (fun _ U o U' => ∃ v L, o = .returned v ∧ Q0 Z i1 i2 i3 w1 h0 n0 v U'.heap L ∧ FrameEnd U o U' L room_1.cells room_1.slots) := by
  refine MetFree.of_bodySF (plainFor_of_name pn_6) hisR ?_
  intro p e s m args below meth c s₁ Bd hml0 hP hK
  obtain ⟨rfl, hZ, hh⟩ := hP
  have hx := Bd.exec
  have hby := Bd.bytes
  have hlk : meth.locks = false := BodyLoose.notSynchronized Bd
  have hml : c.maxLocals = 15 := hml0
  have hown : s.vm.findClass "wayfarer/process/RepeatStepStopsPinLaw" = some m.cls := findClass_of_methodNamed Bd.named
  have hnm := (name_of_methodNamed Bd.named Bd.method).1
  have X0 : Stand p l e room_1 s m #[(.int i1), (.int i2), (.int i3)] below meth c s₁ [] 0 0 := Stand.of_body Bd
  have e0 : s₁.heap = h0 := by rw [← hh, Bd.state]; rfl
  have N0 := Fr.nil n0
  show own_Goes p e below s (Q0 Z i1 i2 i3 w1 h0 n0) room_1.cells room_1.slots s₁ (entryFrame m #[(.int i1), (.int i2), (.int i3)] maxLocals)
  rw [ef_0 m i1 i2 i3]
  refine own_step (f' := (mkF m 1 #[.val (.int i1), .val (.int i2), .val (.int i3), .unset, .unset, .unset, .unset, .unset, .unset, .unset, .unset, .unset, .unset, .unset, .unset] [(.int i2)])) (fun _ k => XS.iloadN X0.here hx rfl (hb hby at_0) rfl k) ?_
  refine own_step (f' := (mkF m 2 #[.val (.int i1), .val (.int i2), .val (.int i3), .unset, .unset, .unset, .unset, .unset, .unset, .unset, .unset, .unset, .unset, .unset, .unset] [(.int (1 : Int32)), (.int i2)])) (fun _ k => XS.iconst X0.here hx rfl (hb hby at_1) k) ?_
  refine own_step (f' := (mkF m 3 #[.val (.int i1), .val (.int i2), .val (.int i3), .unset, .unset, .unset, .unset, .unset, .unset, .unset, .unset, .unset, .unset, .unset, .unset] [(.int (i2 &&& (1 : Int32)))])) (fun _ k => XS.iand X0.here hx rfl (hb hby at_2) rfl k) ?_
  have J3_2 : ∀ (T3_2 : State) (v3_2_s0 : Int32), Stand p l e room_1 s m #[(.int i1), (.int i2), (.int i3)] below meth c T3_2 [] 0 0 → T3_2.heap = h0 → v3_2_s0 = (if (i2 &&& (1 : Int32)) = (0 : Int32) then (0 : Int32) else (1 : Int32)) → own_Goes p e below s (Q0 Z i1 i2 i3 w1 h0 n0) room_1.cells room_1.slots T3_2 (mkF m 11 #[.val (.int i1), .val (.int i2), .val (.int i3), .unset, .unset, .unset, .unset, .unset, .unset, .unset, .unset, .unset, .unset, .unset, .unset] [(.int v3_2_s0)]) := by
    intro T3_2 v3_2_s0 X3_2 e3_2 hv3_2_0
    refine own_step (f' := (mkF m 12 #[.val (.int i1), .val (.int i2), .val (.int i3), .val (.int v3_2_s0), .unset, .unset, .unset, .unset, .unset, .unset, .unset, .unset, .unset, .unset, .unset] [])) (fun _ k => XS.istoreN X3_2.here hx rfl (hb hby at_11) rfl (l' := #[.val (.int i1), .val (.int i2), .val (.int i3), .val (.int v3_2_s0), .unset, .unset, .unset, .unset, .unset, .unset, .unset, .unset, .unset, .unset, .unset]) rfl k) ?_
    refine own_step (f' := (mkF m 13 #[.val (.int i1), .val (.int i2), .val (.int i3), .val (.int v3_2_s0), .unset, .unset, .unset, .unset, .unset, .unset, .unset, .unset, .unset, .unset, .unset] [(.int i2)])) (fun _ k => XS.iloadN X3_2.here hx rfl (hb hby at_12) rfl k) ?_
    refine own_step (f' := (mkF m 14 #[.val (.int i1), .val (.int i2), .val (.int i3), .val (.int v3_2_s0), .unset, .unset, .unset, .unset, .unset, .unset, .unset, .unset, .unset, .unset, .unset] [(.int (2 : Int32)), (.int i2)])) (fun _ k => XS.iconst X3_2.here hx rfl (hb hby at_13) k) ?_
    refine own_step (f' := (mkF m 15 #[.val (.int i1), .val (.int i2), .val (.int i3), .val (.int v3_2_s0), .unset, .unset, .unset, .unset, .unset, .unset, .unset, .unset, .unset, .unset, .unset] [(.int (i2 &&& (2 : Int32)))])) (fun _ k => XS.iand X3_2.here hx rfl (hb hby at_14) rfl k) ?_
    have J15_4 : ∀ (T15_4 : State) (v15_4_s0 : Int32), Stand p l e room_1 s m #[(.int i1), (.int i2), (.int i3)] below meth c T15_4 [] 0 0 → T15_4.heap = h0 → v15_4_s0 = (if (i2 &&& (2 : Int32)) = (0 : Int32) then (0 : Int32) else (1 : Int32)) → own_Goes p e below s (Q0 Z i1 i2 i3 w1 h0 n0) room_1.cells room_1.slots T15_4 (mkF m 23 #[.val (.int i1), .val (.int i2), .val (.int i3), .val (.int v3_2_s0), .unset, .unset, .unset, .unset, .unset, .unset, .unset, .unset, .unset, .unset, .unset] [(.int v15_4_s0)]) := by
      intro T15_4 v15_4_s0 X15_4 e15_4 hv15_4_0
      refine own_step (f' := (mkF m 25 #[.val (.int i1), .val (.int i2), .val (.int i3), .val (.int v3_2_s0), .val (.int v15_4_s0), .unset, .unset, .unset, .unset, .unset, .unset, .unset, .unset, .unset, .unset] [])) (fun _ k => XS.istore X15_4.here hx rfl (hb hby at_23) rfl (l' := #[.val (.int i1), .val (.int i2), .val (.int i3), .val (.int v3_2_s0), .val (.int v15_4_s0), .unset, .unset, .unset, .unset, .unset, .unset, .unset, .unset, .unset, .unset]) rfl k) ?_
      refine own_step (f' := (mkF m 26 #[.val (.int i1), .val (.int i2), .val (.int i3), .val (.int v3_2_s0), .val (.int v15_4_s0), .unset, .unset, .unset, .unset, .unset, .unset, .unset, .unset, .unset, .unset] [(.int i2)])) (fun _ k => XS.iloadN X15_4.here hx rfl (hb hby at_25) rfl k) ?_
      refine own_step (f' := (mkF m 28 #[.val (.int i1), .val (.int i2), .val (.int i3), .val (.int v3_2_s0), .val (.int v15_4_s0), .unset, .unset, .unset, .unset, .unset, .unset, .unset, .unset, .unset, .unset] [(.int (8 : Int32)), (.int i2)])) (fun _ k => XS.bipush X15_4.here hx rfl (hb hby at_26) k) ?_
      refine own_step (f' := (mkF m 29 #[.val (.int i1), .val (.int i2), .val (.int i3), .val (.int v3_2_s0), .val (.int v15_4_s0), .unset, .unset, .unset, .unset, .unset, .unset, .unset, .unset, .unset, .unset] [(.int (i2 &&& (8 : Int32)))])) (fun _ k => XS.iand X15_4.here hx rfl (hb hby at_28) rfl k) ?_
      have J29_6 : ∀ (T29_6 : State) (v29_6_s0 : Int32), Stand p l e room_1 s m #[(.int i1), (.int i2), (.int i3)] below meth c T29_6 [] 0 0 → T29_6.heap = h0 → v29_6_s0 = (if (i2 &&& (8 : Int32)) = (0 : Int32) then (0 : Int32) else (1 : Int32)) → own_Goes p e below s (Q0 Z i1 i2 i3 w1 h0 n0) room_1.cells room_1.slots T29_6 (mkF m 37 #[.val (.int i1), .val (.int i2), .val (.int i3), .val (.int v3_2_s0), .val (.int v15_4_s0), .unset, .unset, .unset, .unset, .unset, .unset, .unset, .unset, .unset, .unset] [(.int v29_6_s0)]) := by
        intro T29_6 v29_6_s0 X29_6 e29_6 hv29_6_0
        refine own_step (f' := (mkF m 39 #[.val (.int i1), .val (.int i2), .val (.int i3), .val (.int v3_2_s0), .val (.int v15_4_s0), .val (.int v29_6_s0), .unset, .unset, .unset, .unset, .unset, .unset, .unset, .unset, .unset] [])) (fun _ k => XS.istore X29_6.here hx rfl (hb hby at_37) rfl (l' := #[.val (.int i1), .val (.int i2), .val (.int i3), .val (.int v3_2_s0), .val (.int v15_4_s0), .val (.int v29_6_s0), .unset, .unset, .unset, .unset, .unset, .unset, .unset, .unset, .unset]) rfl k) ?_
        refine own_step (f' := (mkF m 40 #[.val (.int i1), .val (.int i2), .val (.int i3), .val (.int v3_2_s0), .val (.int v15_4_s0), .val (.int v29_6_s0), .unset, .unset, .unset, .unset, .unset, .unset, .unset, .unset, .unset] [(.int v3_2_s0)])) (fun _ k => XS.iloadN X29_6.here hx rfl (hb hby at_39) rfl k) ?_
        have J40_8 : ∀ (T40_8 : State) (v40_8_s0 : Int32), Stand p l e room_1 s m #[(.int i1), (.int i2), (.int i3)] below meth c T40_8 [] 0 0 → T40_8.heap = h0 → v40_8_s0 = (if v3_2_s0 = (0 : Int32) then i1 else (-1 : Int32)) → own_Goes p e below s (Q0 Z i1 i2 i3 w1 h0 n0) room_1.cells room_1.slots T40_8 (mkF m 48 #[.val (.int i1), .val (.int i2), .val (.int i3), .val (.int v3_2_s0), .val (.int v15_4_s0), .val (.int v29_6_s0), .unset, .unset, .unset, .unset, .unset, .unset, .unset, .unset, .unset] [(.int v40_8_s0)]) := by
          intro T40_8 v40_8_s0 X40_8 e40_8 hv40_8_0
          refine own_step (f' := (mkF m 50 #[.val (.int i1), .val (.int i2), .val (.int i3), .val (.int v3_2_s0), .val (.int v15_4_s0), .val (.int v29_6_s0), .val (.int v40_8_s0), .unset, .unset, .unset, .unset, .unset, .unset, .unset, .unset] [])) (fun _ k => XS.istore X40_8.here hx rfl (hb hby at_48) rfl (l' := #[.val (.int i1), .val (.int i2), .val (.int i3), .val (.int v3_2_s0), .val (.int v15_4_s0), .val (.int v29_6_s0), .val (.int v40_8_s0), .unset, .unset, .unset, .unset, .unset, .unset, .unset, .unset]) rfl k) ?_
          refine own_step (f' := (mkF m 52 #[.val (.int i1), .val (.int i2), .val (.int i3), .val (.int v3_2_s0), .val (.int v15_4_s0), .val (.int v29_6_s0), .val (.int v40_8_s0), .unset, .unset, .unset, .unset, .unset, .unset, .unset, .unset] [(.int v15_4_s0)])) (fun _ k => XS.iload X40_8.here hx rfl (hb hby at_50) rfl k) ?_
          by_cases hc52_9 : v15_4_s0 = (0 : Int32)
          · refine own_step (f' := (mkF m 83 #[.val (.int i1), .val (.int i2), .val (.int i3), .val (.int v3_2_s0), .val (.int v15_4_s0), .val (.int v29_6_s0), .val (.int v40_8_s0), .unset, .unset, .unset, .unset, .unset, .unset, .unset, .unset] [])) (fun _ k => XS.ifYes X40_8.here hx rfl (pc0 := 52) (pc' := 83) rfl (hb hby at_52) rfl ((if0 _ _).trans (teq hc52_9).1) (by decide) (by decide) k) ?_
            refine own_step (f' := (mkF m 84 #[.val (.int i1), .val (.int i2), .val (.int i3), .val (.int v3_2_s0), .val (.int v15_4_s0), .val (.int v29_6_s0), .val (.int v40_8_s0), .unset, .unset, .unset, .unset, .unset, .unset, .unset, .unset] [.null])) (fun _ k => XS.aconstNull X40_8.here hx rfl (hb hby at_83) k) ?_
            refine own_step (f' := (mkF m 86 #[.val (.int i1), .val (.int i2), .val (.int i3), .val (.int v3_2_s0), .val (.int v15_4_s0), .val (.int v29_6_s0), .val (.int v40_8_s0), .val .null, .unset, .unset, .unset, .unset, .unset, .unset, .unset] [])) (fun _ k => XS.astore X40_8.here hx rfl (hb hby at_84) rfl rfl (l' := #[.val (.int i1), .val (.int i2), .val (.int i3), .val (.int v3_2_s0), .val (.int v15_4_s0), .val (.int v29_6_s0), .val (.int v40_8_s0), .val .null, .unset, .unset, .unset, .unset, .unset, .unset, .unset]) rfl k) ?_
            refine own_step (f' := (mkF m 88 #[.val (.int i1), .val (.int i2), .val (.int i3), .val (.int v3_2_s0), .val (.int v15_4_s0), .val (.int v29_6_s0), .val (.int v40_8_s0), .val .null, .unset, .unset, .unset, .unset, .unset, .unset, .unset] [(.int v29_6_s0)])) (fun _ k => XS.iload X40_8.here hx rfl (hb hby at_86) rfl k) ?_
            by_cases hc88_10 : v29_6_s0 = (0 : Int32)
            · refine own_step (f' := (mkF m 120 #[.val (.int i1), .val (.int i2), .val (.int i3), .val (.int v3_2_s0), .val (.int v15_4_s0), .val (.int v29_6_s0), .val (.int v40_8_s0), .val .null, .unset, .unset, .unset, .unset, .unset, .unset, .unset] [])) (fun _ k => XS.ifYes X40_8.here hx rfl (pc0 := 88) (pc' := 120) rfl (hb hby at_88) rfl ((if0 _ _).trans (teq hc88_10).1) (by decide) (by decide) k) ?_
              refine own_step (f' := (mkF m 121 #[.val (.int i1), .val (.int i2), .val (.int i3), .val (.int v3_2_s0), .val (.int v15_4_s0), .val (.int v29_6_s0), .val (.int v40_8_s0), .val .null, .unset, .unset, .unset, .unset, .unset, .unset, .unset] [.null])) (fun _ k => XS.aconstNull X40_8.here hx rfl (hb hby at_120) k) ?_
              refine own_step (f' := (mkF m 123 #[.val (.int i1), .val (.int i2), .val (.int i3), .val (.int v3_2_s0), .val (.int v15_4_s0), .val (.int v29_6_s0), .val (.int v40_8_s0), .val .null, .val .null, .unset, .unset, .unset, .unset, .unset, .unset] [])) (fun _ k => XS.astore X40_8.here hx rfl (hb hby at_121) rfl rfl (l' := #[.val (.int i1), .val (.int i2), .val (.int i3), .val (.int v3_2_s0), .val (.int v15_4_s0), .val (.int v29_6_s0), .val (.int v40_8_s0), .val .null, .val .null, .unset, .unset, .unset, .unset, .unset, .unset]) rfl k) ?_
              obtain ⟨T11, h11, X11, e11, E11, A11, D11, -, st11⟩ := newO X40_8 hx hZ hown (hw _ (List.mem_of_getElem? (i := 42) rfl)) (hw _ (List.mem_of_getElem? (i := 43) rfl)) (hw _ (List.mem_of_getElem? (i := 44) rfl)) e40_8 (g := (mkF m 123 #[.val (.int i1), .val (.int i2), .val (.int i3), .val (.int v3_2_s0), .val (.int v15_4_s0), .val (.int v29_6_s0), .val (.int v40_8_s0), .val .null, .val .null, .unset, .unset, .unset, .unset, .unset, .unset] [])) rfl (hb hby at_123) (by decide) (by decide)
              obtain ⟨b11, g11⟩ : ∃ z, z = h0.size := ⟨_, rfl⟩
              rw [← g11] at A11 D11 st11
              have g_b11 : n0 ≤ b11 := Nat.le_trans Z0 (Nat.le_of_eq g11.symm)
              have F_body_b11 : Fld Z h11 b11 "wayfarer/process/RepeatStep" "body" "Ljava/util/List;" .null := D11 (Or.inr (hw _ (List.mem_of_getElem? (i := 50) rfl))) (ty := (.object "java/util/List")) (by decide)
              have F_times_b11 : Fld Z h11 b11 "wayfarer/process/RepeatStep" "times" "I" (.int (0 : Int32)) := D11 (Or.inr (hw _ (List.mem_of_getElem? (i := 52) rfl))) (ty := .int) (by decide)
              have F_until_b11 : Fld Z h11 b11 "wayfarer/process/RepeatStep" "until" "Lwayfarer/process/RepeatStep$Condition;" .null := D11 (Or.inr (hw _ (List.mem_of_getElem? (i := 54) rfl))) (ty := (.object "wayfarer/process/RepeatStep$Condition")) (by decide)
              have F_emit_b11 : Fld Z h11 b11 "wayfarer/process/RepeatStep" "emit" "Lwayfarer/process/RepeatStep$Condition;" .null := D11 (Or.inr (hw _ (List.mem_of_getElem? (i := 56) rfl))) (ty := (.object "wayfarer/process/RepeatStep$Condition")) (by decide)
              refine own_step (f' := (mkF m 126 #[.val (.int i1), .val (.int i2), .val (.int i3), .val (.int v3_2_s0), .val (.int v15_4_s0), .val (.int v29_6_s0), .val (.int v40_8_s0), .val .null, .val .null, .unset, .unset, .unset, .unset, .unset, .unset] [(.ref b11)])) st11 ?_
              refine own_step (f' := (mkF m 127 #[.val (.int i1), .val (.int i2), .val (.int i3), .val (.int v3_2_s0), .val (.int v15_4_s0), .val (.int v29_6_s0), .val (.int v40_8_s0), .val .null, .val .null, .unset, .unset, .unset, .unset, .unset, .unset] [(.ref b11), (.ref b11)])) (fun _ k => XS.dup X11.here hx rfl (hb hby at_126) rfl rfl k) ?_
              obtain ⟨T12, h12, X12, e12, E12, A12, D12, -, st12⟩ := newO X11 hx hZ hown (hw _ (List.mem_of_getElem? (i := 3) rfl)) (hw _ (List.mem_of_getElem? (i := 4) rfl)) (hw _ (List.mem_of_getElem? (i := 5) rfl)) e11 (g := (mkF m 127 #[.val (.int i1), .val (.int i2), .val (.int i3), .val (.int v3_2_s0), .val (.int v15_4_s0), .val (.int v29_6_s0), .val (.int v40_8_s0), .val .null, .val .null, .unset, .unset, .unset, .unset, .unset, .unset] [(.ref b11), (.ref b11)])) rfl (hb hby at_127) (by decide) (by decide)
              obtain ⟨b12, g12⟩ : ∃ z, z = h11.size := ⟨_, rfl⟩
              rw [← g12] at A12 D12 st12
              have ne_b11_b12 : b11 ≠ b12 := Nat.ne_of_lt (Nat.lt_of_lt_of_le A11.lt (Nat.le_of_eq g12.symm))
              have g_b12 : n0 ≤ b12 := Nat.le_trans (Nat.le_trans Z0 E11.1) (Nat.le_of_eq g12.symm)
              have F_modCount_b12 : Fld Z h12 b12 "java/util/AbstractList" "modCount" "I" (.int (0 : Int32)) := D12 (Or.inl (hw _ (List.mem_of_getElem? (i := 25) rfl))) (ty := .int) (by decide)
              have F_elementData_b12 : Fld Z h12 b12 "java/util/ArrayList" "elementData" "[Ljava/lang/Object;" .null := D12 (Or.inl (hw _ (List.mem_of_getElem? (i := 28) rfl))) (ty := (.array (.object "java/lang/Object"))) (by decide)
              refine own_step (f' := (mkF m 130 #[.val (.int i1), .val (.int i2), .val (.int i3), .val (.int v3_2_s0), .val (.int v15_4_s0), .val (.int v29_6_s0), .val (.int v40_8_s0), .val .null, .val .null, .unset, .unset, .unset, .unset, .unset, .unset] [(.ref b12), (.ref b11), (.ref b11)])) st12 ?_
              refine own_step (f' := (mkF m 131 #[.val (.int i1), .val (.int i2), .val (.int i3), .val (.int v3_2_s0), .val (.int v15_4_s0), .val (.int v29_6_s0), .val (.int v40_8_s0), .val .null, .val .null, .unset, .unset, .unset, .unset, .unset, .unset] [(.ref b12), (.ref b12), (.ref b11), (.ref b11)])) (fun _ k => XS.dup X12.here hx rfl (hb hby at_130) rfl rfl k) ?_
              have Zq13 : n0 ≤ h12.size := (Nat.le_trans (Nat.le_trans Z0 E11.1) E12.1)
              obtain ⟨_, _, ⟨T13, L13, k13, n13⟩, -, X13, ⟨Lc13, hQ13, l13, y13, z13⟩, st13⟩ := X12.specialBack hx (y := (⟨"java/util/ArrayList", "<init>", "()V"⟩ : MethodName)) rfl hown (mvT hZ (hw _ (List.mem_of_getElem? (i := 6) rfl))) (mvT hZ (hw _ (List.mem_of_getElem? (i := 7) rfl))) (mvT hZ (hw _ (List.mem_of_getElem? (i := 8) rfl))) (by decide) (backOf (W := 3) (rm1 l Z a0 hw [] b12 (.int (0 : Int32)) .null w1 h12 n0 Zq13 A12 F_modCount_b12 g_b12 ((S_DEFAULTCAPACITY_EMPTY_ELEMENTDATA.ext E11).ext E12) F_elementData_b12) hZ (hw _ (List.mem_of_getElem? (i := 8) rfl)) (hw _ (List.mem_of_getElem? (i := 5) rfl)) (by decide) (by decide)) (g := (mkF m 131 #[.val (.int i1), .val (.int i2), .val (.int i3), .val (.int v3_2_s0), .val (.int v15_4_s0), .val (.int v29_6_s0), .val (.int v40_8_s0), .val .null, .val .null, .unset, .unset, .unset, .unset, .unset, .unset] [(.ref b12), (.ref b12), (.ref b11), (.ref b11)])) rfl (by rw [hml]; rfl) (Steps.refl _) (a := b12) (argsL := []) (rest := [(.ref b12), (.ref b11), (.ref b11)]) (lenOf pd_0 rfl) rfl (by show 2 * 0 + _ ≤ _; exact Nat.le_of_eq rfl) (hb hby at_131) (fun _ _ => ⟨rfl, e12, (by decide : 2 + 0 ≤ _), (by decide : 7 + 0 ≤ _)⟩)
              dsimp only [Pt.U, Pt.locs, Pt.cells, Pt.slots] at X13 l13 y13 z13 st13 hQ13
              subst l13 y13 z13
              obtain ⟨rfl, Nq13, K13, P13_0, P13_1, P13_2⟩ := hQ13
              obtain ⟨Lo13, X13, N13⟩ : ∃ K, Stand p l e room_1 s m #[(.int i1), (.int i2), (.int i3)] below meth c T13 K 2 7 ∧ Fr n0 K := ⟨_, X13, (Fr.app N0 Nq13)⟩
              refine own_jump (f' := (mkF m 134 #[.val (.int i1), .val (.int i2), .val (.int i3), .val (.int v3_2_s0), .val (.int v15_4_s0), .val (.int v29_6_s0), .val (.int v40_8_s0), .val .null, .val .null, .unset, .unset, .unset, .unset, .unset, .unset] [(.ref b12), (.ref b11), (.ref b11)])) st13 ?_
              refine own_step (f' := (mkF m 136 #[.val (.int i1), .val (.int i2), .val (.int i3), .val (.int v3_2_s0), .val (.int v15_4_s0), .val (.int v29_6_s0), .val (.int v40_8_s0), .val .null, .val .null, .unset, .unset, .unset, .unset, .unset, .unset] [(.int v40_8_s0), (.ref b12), (.ref b11), (.ref b11)])) (fun _ k => XS.iload X13.here hx rfl (hb hby at_134) rfl k) ?_
              refine own_step (f' := (mkF m 138 #[.val (.int i1), .val (.int i2), .val (.int i3), .val (.int v3_2_s0), .val (.int v15_4_s0), .val (.int v29_6_s0), .val (.int v40_8_s0), .val .null, .val .null, .unset, .unset, .unset, .unset, .unset, .unset] [.null, (.int v40_8_s0), (.ref b12), (.ref b11), (.ref b11)])) (fun _ k => XS.aload X13.here hx rfl (hb hby at_136) rfl rfl k) ?_
              refine own_step (f' := (mkF m 140 #[.val (.int i1), .val (.int i2), .val (.int i3), .val (.int v3_2_s0), .val (.int v15_4_s0), .val (.int v29_6_s0), .val (.int v40_8_s0), .val .null, .val .null, .unset, .unset, .unset, .unset, .unset, .unset] [.null, .null, (.int v40_8_s0), (.ref b12), (.ref b11), (.ref b11)])) (fun _ k => XS.aload X13.here hx rfl (hb hby at_138) rfl rfl k) ?_
              have Zq14 : n0 ≤ T13.heap.size := (Nat.le_trans (Nat.le_trans (Nat.le_trans Z0 E11.1) E12.1) K13.1)
              obtain ⟨_, _, ⟨T14, L14, k14, n14⟩, -, X14, ⟨Lc14, hQ14, l14, y14, z14⟩, st14⟩ := X13.specialBack hx (y := (⟨"wayfarer/process/RepeatStep", "<init>", "(Ljava/util/List;ILwayfarer/process/RepeatStep$Condition;Lwayfarer/process/RepeatStep$Condition;)V"⟩ : MethodName)) rfl hown (mvT hZ (hw _ (List.mem_of_getElem? (i := 45) rfl))) (mvT hZ (hw _ (List.mem_of_getElem? (i := 46) rfl))) (mvT hZ (hw _ (List.mem_of_getElem? (i := 47) rfl))) (by decide) (backOf (W := 1) (rm7nn l Z a0 hw [] b11 b12 v40_8_s0 .null (.int (0 : Int32)) .null .null T13.heap n0 Zq14 ((A11.ext E12).keep K13) ((F_body_b11.ext E12).keep K13 (ninS ne_b11_b12 nin0)) ((F_times_b11.ext E12).keep K13 (ninS ne_b11_b12 nin0)) ((F_until_b11.ext E12).keep K13 (ninS ne_b11_b12 nin0)) ((F_emit_b11.ext E12).keep K13 (ninS ne_b11_b12 nin0)) g_b11) hZ (hw _ (List.mem_of_getElem? (i := 47) rfl)) (hw _ (List.mem_of_getElem? (i := 44) rfl)) (by decide) (by decide)) (g := (mkF m 140 #[.val (.int i1), .val (.int i2), .val (.int i3), .val (.int v3_2_s0), .val (.int v15_4_s0), .val (.int v29_6_s0), .val (.int v40_8_s0), .val .null, .val .null, .unset, .unset, .unset, .unset, .unset, .unset] [.null, .null, (.int v40_8_s0), (.ref b12), (.ref b11), (.ref b11)])) rfl (by rw [hml]; rfl) (Steps.refl _) (a := b11) (argsL := [(.ref b12), (.int v40_8_s0), .null, .null]) (rest := [(.ref b11)]) (lenOf pd_2 rfl) rfl (by show 2 * 0 + _ ≤ _; exact Nat.le_of_eq rfl) (hb hby at_140) (fun _ _ => ⟨rfl, rfl, (by decide : 2 + 0 ≤ _), (by decide : 7 + 0 ≤ _)⟩)
              dsimp only [Pt.U, Pt.locs, Pt.cells, Pt.slots] at X14 l14 y14 z14 st14 hQ14
              subst l14 y14 z14
              obtain ⟨rfl, Nq14, K14, P14_0, P14_1, P14_2, P14_3, P14_4⟩ := hQ14
              obtain ⟨Lo14, X14, N14⟩ : ∃ K, Stand p l e room_1 s m #[(.int i1), (.int i2), (.int i3)] below meth c T14 K 2 7 ∧ Fr n0 K := ⟨_, X14, (Fr.app N13 Nq14)⟩
              refine own_jump (f' := (mkF m 143 #[.val (.int i1), .val (.int i2), .val (.int i3), .val (.int v3_2_s0), .val (.int v15_4_s0), .val (.int v29_6_s0), .val (.int v40_8_s0), .val .null, .val .null, .unset, .unset, .unset, .unset, .unset, .unset] [(.ref b11)])) st14 ?_
              refine own_step (f' := (mkF m 145 #[.val (.int i1), .val (.int i2), .val (.int i3), .val (.int v3_2_s0), .val (.int v15_4_s0), .val (.int v29_6_s0), .val (.int v40_8_s0), .val .null, .val .null, .val (.ref b11), .unset, .unset, .unset, .unset, .unset] [])) (fun _ k => XS.astore X14.here hx rfl (hb hby at_143) rfl rfl (l' := #[.val (.int i1), .val (.int i2), .val (.int i3), .val (.int v3_2_s0), .val (.int v15_4_s0), .val (.int v29_6_s0), .val (.int v40_8_s0), .val .null, .val .null, .val (.ref b11), .unset, .unset, .unset, .unset, .unset]) rfl k) ?_
              refine own_step (f' := (mkF m 147 #[.val (.int i1), .val (.int i2), .val (.int i3), .val (.int v3_2_s0), .val (.int v15_4_s0), .val (.int v29_6_s0), .val (.int v40_8_s0), .val .null, .val .null, .val (.ref b11), .unset, .unset, .unset, .unset, .unset] [(.int v40_8_s0)])) (fun _ k => XS.iload X14.here hx rfl (hb hby at_145) rfl k) ?_
              refine own_step (f' := (mkF m 148 #[.val (.int i1), .val (.int i2), .val (.int i3), .val (.int v3_2_s0), .val (.int v15_4_s0), .val (.int v29_6_s0), .val (.int v40_8_s0), .val .null, .val .null, .val (.ref b11), .unset, .unset, .unset, .unset, .unset] [(.int (-1 : Int32)), (.int v40_8_s0)])) (fun _ k => XS.iconst X14.here hx rfl (hb hby at_147) k) ?_
              have J148_17 : ∀ (T148_17 : State) (v148_17_s0 : Int32), Stand p l e room_1 s m #[(.int i1), (.int i2), (.int i3)] below meth c T148_17 Lo14 2 7 → T148_17.heap = T14.heap → v148_17_s0 = (if v40_8_s0 = (-1 : Int32) then (if v15_4_s0 = (0 : Int32) then (0 : Int32) else (1 : Int32)) else (1 : Int32)) → own_Goes p e below s (Q0 Z i1 i2 i3 w1 h0 n0) room_1.cells room_1.slots T148_17 (mkF m 161 #[.val (.int i1), .val (.int i2), .val (.int i3), .val (.int v3_2_s0), .val (.int v15_4_s0), .val (.int v29_6_s0), .val (.int v40_8_s0), .val .null, .val .null, .val (.ref b11), .unset, .unset, .unset, .unset, .unset] [(.int v148_17_s0)]) := by
                intro T148_17 v148_17_s0 X148_17 e148_17 hv148_17_0
                refine own_step (f' := (mkF m 163 #[.val (.int i1), .val (.int i2), .val (.int i3), .val (.int v3_2_s0), .val (.int v15_4_s0), .val (.int v29_6_s0), .val (.int v40_8_s0), .val .null, .val .null, .val (.ref b11), .val (.int v148_17_s0), .unset, .unset, .unset, .unset] [])) (fun _ k => XS.istore X148_17.here hx rfl (hb hby at_161) rfl (l' := #[.val (.int i1), .val (.int i2), .val (.int i3), .val (.int v3_2_s0), .val (.int v15_4_s0), .val (.int v29_6_s0), .val (.int v40_8_s0), .val .null, .val .null, .val (.ref b11), .val (.int v148_17_s0), .unset, .unset, .unset, .unset]) rfl k) ?_
                refine own_step (f' := (mkF m 165 #[.val (.int i1), .val (.int i2), .val (.int i3), .val (.int v3_2_s0), .val (.int v15_4_s0), .val (.int v29_6_s0), .val (.int v40_8_s0), .val .null, .val .null, .val (.ref b11), .val (.int v148_17_s0), .unset, .unset, .unset, .unset] [(.ref b11)])) (fun _ k => XS.aload X148_17.here hx rfl (hb hby at_163) rfl rfl k) ?_
                have Zq18 : n0 ≤ T14.heap.size := (Nat.le_trans (Nat.le_trans (Nat.le_trans (Nat.le_trans Z0 E11.1) E12.1) K13.1) K14.1)
                obtain ⟨cq18, kq18, q18a, q18b, q18c⟩ := isOf hZ e148_17 P14_0
                obtain ⟨_, _, ⟨T18, L18, k18, n18⟩, -, X18, ⟨Lc18, hQ18, l18, y18, z18⟩, st18⟩ := X148_17.virtualBack hx (y := (⟨"wayfarer/process/RepeatStep", "stops", "()Z"⟩ : MethodName)) (z := (⟨"wayfarer/process/RepeatStep", "stops", "()Z"⟩ : MethodName)) hown (mvT hZ (hw _ (List.mem_of_getElem? (i := 57) rfl))) (mvT hZ (hw _ (List.mem_of_getElem? (i := 58) rfl))) (notFace_of_selects (args := #[]) (mvT hZ (hw _ (List.mem_of_getElem? (i := 60) rfl)))) (mvT hZ (hw _ (List.mem_of_getElem? (i := 60) rfl))) (mvT hZ (hw _ (List.mem_of_getElem? (i := 59) rfl))) (by decide) (backOf (W := 0) (rm8n l Z a0 hw [] b11 v40_8_s0 T14.heap n0 Zq18 P14_2 P14_3) hZ (hw _ (List.mem_of_getElem? (i := 61) rfl)) (hw _ (List.mem_of_getElem? (i := 44) rfl)) (by decide) (by decide)) q18a q18c (g := (mkF m 165 #[.val (.int i1), .val (.int i2), .val (.int i3), .val (.int v3_2_s0), .val (.int v15_4_s0), .val (.int v29_6_s0), .val (.int v40_8_s0), .val .null, .val .null, .val (.ref b11), .val (.int v148_17_s0), .unset, .unset, .unset, .unset] [(.ref b11)])) rfl (by rw [hml]; rfl) (Steps.refl _) (argsL := []) (rest := []) (lenOf pd_1 rfl) rfl (by show 2 * 0 + _ ≤ _; exact Nat.le_of_eq rfl) (hb hby at_165) (fun _ _ => ⟨rfl, e148_17, (by decide : 2 + 0 ≤ _), (by decide : 7 + 0 ≤ _)⟩)
                dsimp only [Pt.U, Pt.locs, Pt.cells, Pt.slots] at X18 l18 y18 z18 st18 hQ18
                subst l18 y18 z18
                obtain ⟨rfl, rfl, e18⟩ := hQ18
                try rw [List.append_nil] at X18
                refine own_jump (f' := (mkF m 168 #[.val (.int i1), .val (.int i2), .val (.int i3), .val (.int v3_2_s0), .val (.int v15_4_s0), .val (.int v29_6_s0), .val (.int v40_8_s0), .val .null, .val .null, .val (.ref b11), .val (.int v148_17_s0), .unset, .unset, .unset, .unset] [(.int (own_st0 v40_8_s0))])) st18 ?_
                refine own_step (f' := (mkF m 170 #[.val (.int i1), .val (.int i2), .val (.int i3), .val (.int v3_2_s0), .val (.int v15_4_s0), .val (.int v29_6_s0), .val (.int v40_8_s0), .val .null, .val .null, .val (.ref b11), .val (.int v148_17_s0), .val (.int (own_st0 v40_8_s0)), .unset, .unset, .unset] [])) (fun _ k => XS.istore X18.here hx rfl (hb hby at_168) rfl (l' := #[.val (.int i1), .val (.int i2), .val (.int i3), .val (.int v3_2_s0), .val (.int v15_4_s0), .val (.int v29_6_s0), .val (.int v40_8_s0), .val .null, .val .null, .val (.ref b11), .val (.int v148_17_s0), .val (.int (own_st0 v40_8_s0)), .unset, .unset, .unset]) rfl k) ?_
                refine own_step (f' := (mkF m 172 #[.val (.int i1), .val (.int i2), .val (.int i3), .val (.int v3_2_s0), .val (.int v15_4_s0), .val (.int v29_6_s0), .val (.int v40_8_s0), .val .null, .val .null, .val (.ref b11), .val (.int v148_17_s0), .val (.int (own_st0 v40_8_s0)), .unset, .unset, .unset] [(.int (own_st0 v40_8_s0))])) (fun _ k => XS.iload X18.here hx rfl (hb hby at_170) rfl k) ?_
                refine own_step (f' := (mkF m 174 #[.val (.int i1), .val (.int i2), .val (.int i3), .val (.int v3_2_s0), .val (.int v15_4_s0), .val (.int v29_6_s0), .val (.int v40_8_s0), .val .null, .val .null, .val (.ref b11), .val (.int v148_17_s0), .val (.int (own_st0 v40_8_s0)), .unset, .unset, .unset] [(.int v148_17_s0), (.int (own_st0 v40_8_s0))])) (fun _ k => XS.iload X18.here hx rfl (hb hby at_172) rfl k) ?_
                have hf174_19 : (own_st0 v40_8_s0) = v148_17_s0 := own_e0 _ _ _ hc52_9 hv148_17_0
                refine own_step (f' := (mkF m 179 #[.val (.int i1), .val (.int i2), .val (.int i3), .val (.int v3_2_s0), .val (.int v15_4_s0), .val (.int v29_6_s0), .val (.int v40_8_s0), .val .null, .val .null, .val (.ref b11), .val (.int v148_17_s0), .val (.int (own_st0 v40_8_s0)), .unset, .unset, .unset] [])) (fun _ k => XS.icmpYes X18.here hx rfl (pc0 := 174) (pc' := 179) rfl (hb hby at_174) rfl (teq hf174_19).1 (by decide) (by decide) k) ?_
                refine own_step (f' := (mkF m 181 #[.val (.int i1), .val (.int i2), .val (.int i3), .val (.int v3_2_s0), .val (.int v15_4_s0), .val (.int v29_6_s0), .val (.int v40_8_s0), .val .null, .val .null, .val (.ref b11), .val (.int v148_17_s0), .val (.int (own_st0 v40_8_s0)), .unset, .unset, .unset] [(.int (own_st0 v40_8_s0))])) (fun _ k => XS.iload X18.here hx rfl (hb hby at_179) rfl k) ?_
                by_cases hc181_20 : (own_st0 v40_8_s0) = (0 : Int32)
                · refine own_step (f' := (mkF m 184 #[.val (.int i1), .val (.int i2), .val (.int i3), .val (.int v3_2_s0), .val (.int v15_4_s0), .val (.int v29_6_s0), .val (.int v40_8_s0), .val .null, .val .null, .val (.ref b11), .val (.int v148_17_s0), .val (.int (own_st0 v40_8_s0)), .unset, .unset, .unset] [])) (fun _ k => XS.ifNo X18.here hx rfl (hb hby at_181) rfl ((if0 _ _).trans (teq hc181_20).2) k) ?_
                  refine own_step (f' := (mkF m 186 #[.val (.int i1), .val (.int i2), .val (.int i3), .val (.int v3_2_s0), .val (.int v15_4_s0), .val (.int v29_6_s0), .val (.int v40_8_s0), .val .null, .val .null, .val (.ref b11), .val (.int v148_17_s0), .val (.int (own_st0 v40_8_s0)), .unset, .unset, .unset] [(.ref b11)])) (fun _ k => XS.aload X18.here hx rfl (hb hby at_184) rfl rfl k) ?_
                  refine own_step (f' := (mkF m 187 #[.val (.int i1), .val (.int i2), .val (.int i3), .val (.int v3_2_s0), .val (.int v15_4_s0), .val (.int v29_6_s0), .val (.int v40_8_s0), .val .null, .val .null, .val (.ref b11), .val (.int v148_17_s0), .val (.int (own_st0 v40_8_s0)), .unset, .unset, .unset] [(.int i3), (.ref b11)])) (fun _ k => XS.iloadN X18.here hx rfl (hb hby at_186) rfl k) ?_
                  refine own_step (f' := (mkF m 189 #[.val (.int i1), .val (.int i2), .val (.int i3), .val (.int v3_2_s0), .val (.int v15_4_s0), .val (.int v29_6_s0), .val (.int v40_8_s0), .val .null, .val .null, .val (.ref b11), .val (.int v148_17_s0), .val (.int (own_st0 v40_8_s0)), .unset, .unset, .unset] [(.int (2147483647 : Int32)), (.int i3), (.ref b11)])) (fun _ k => X18.ldcInt hx hown (mvT hZ (hw _ (List.mem_of_getElem? (i := 62) rfl))) (g := (mkF m 187 #[.val (.int i1), .val (.int i2), .val (.int i3), .val (.int v3_2_s0), .val (.int v15_4_s0), .val (.int v29_6_s0), .val (.int v40_8_s0), .val .null, .val .null, .val (.ref b11), .val (.int v148_17_s0), .val (.int (own_st0 v40_8_s0)), .unset, .unset, .unset] [(.int i3), (.ref b11)])) rfl (hb hby at_187) _ k) ?_
                  refine own_step (f' := (mkF m 190 #[.val (.int i1), .val (.int i2), .val (.int i3), .val (.int v3_2_s0), .val (.int v15_4_s0), .val (.int v29_6_s0), .val (.int v40_8_s0), .val .null, .val .null, .val (.ref b11), .val (.int v148_17_s0), .val (.int (own_st0 v40_8_s0)), .unset, .unset, .unset] [(.int (i3 &&& (2147483647 : Int32))), (.ref b11)])) (fun _ k => XS.iand X18.here hx rfl (hb hby at_189) rfl k) ?_
                  have hp21_hp : own_st0 v40_8_s0 = (0 : Int32) := hc181_20
                  have Zq21 : n0 ≤ T14.heap.size := (Nat.le_trans (Nat.le_trans (Nat.le_trans (Nat.le_trans Z0 E11.1) E12.1) K13.1) K14.1)
                  obtain ⟨cq21, kq21, q21a, q21b, q21c⟩ := isOf hZ e18 P14_0
                  obtain ⟨_, _, ⟨T21, L21, k21, n21⟩, -, X21, ⟨Lc21, hQ21, l21, y21, z21⟩, st21⟩ := X18.virtualBack hx (y := (⟨"wayfarer/process/RepeatStep", "withTimes", "(I)Lwayfarer/process/RepeatStep;"⟩ : MethodName)) (z := (⟨"wayfarer/process/RepeatStep", "withTimes", "(I)Lwayfarer/process/RepeatStep;"⟩ : MethodName)) hown (mvT hZ (hw _ (List.mem_of_getElem? (i := 63) rfl))) (mvT hZ (hw _ (List.mem_of_getElem? (i := 64) rfl))) (notFace_of_selects (args := #[]) (mvT hZ (hw _ (List.mem_of_getElem? (i := 66) rfl)))) (mvT hZ (hw _ (List.mem_of_getElem? (i := 66) rfl))) (mvT hZ (hw _ (List.mem_of_getElem? (i := 65) rfl))) (by decide) (backOf (W := 0) (rm9n l Z a0 hw [] b11 (i3 &&& (2147483647 : Int32)) b12 v40_8_s0 T14.heap n0 Zq21 P14_0 P14_1 P14_2 P14_3 P14_4 hp21_hp) hZ (hw _ (List.mem_of_getElem? (i := 67) rfl)) (hw _ (List.mem_of_getElem? (i := 44) rfl)) (by decide) (by decide)) q21a q21c (g := (mkF m 190 #[.val (.int i1), .val (.int i2), .val (.int i3), .val (.int v3_2_s0), .val (.int v15_4_s0), .val (.int v29_6_s0), .val (.int v40_8_s0), .val .null, .val .null, .val (.ref b11), .val (.int v148_17_s0), .val (.int (own_st0 v40_8_s0)), .unset, .unset, .unset] [(.int (i3 &&& (2147483647 : Int32))), (.ref b11)])) rfl (by rw [hml]; rfl) (Steps.refl _) (argsL := [(.int (i3 &&& (2147483647 : Int32)))]) (rest := []) (lenOf pd_3 rfl) rfl (by show 2 * 0 + _ ≤ _; exact Nat.le_of_eq rfl) (hb hby at_190) (fun _ _ => ⟨rfl, e18, (by decide : 2 + 1 ≤ _), (by decide : 7 + 4 ≤ _)⟩)
                  dsimp only [Pt.U, Pt.locs, Pt.cells, Pt.slots] at X21 l21 y21 z21 st21 hQ21
                  subst l21 y21 z21
                  obtain ⟨b21, rfl, g_b21, sq_b21, Nq21, K21, P21_0, P21_1, P21_2⟩ := hQ21
                  obtain ⟨Lo21, X21, N21⟩ : ∃ K, Stand p l e room_1 s m #[(.int i1), (.int i2), (.int i3)] below meth c T21 K 3 11 ∧ Fr n0 K := ⟨_, X21, (Fr.app N14 Nq21)⟩
                  have ne_b11_b21 : b11 ≠ b21 := Nat.ne_of_lt (Nat.lt_of_lt_of_le P14_0.lt sq_b21)
                  have ne_b12_b21 : b12 ≠ b21 := Nat.ne_of_lt (Nat.lt_of_lt_of_le (P13_0.keep K14).lt sq_b21)
                  refine own_jump (f' := (mkF m 193 #[.val (.int i1), .val (.int i2), .val (.int i3), .val (.int v3_2_s0), .val (.int v15_4_s0), .val (.int v29_6_s0), .val (.int v40_8_s0), .val .null, .val .null, .val (.ref b11), .val (.int v148_17_s0), .val (.int (own_st0 v40_8_s0)), .unset, .unset, .unset] [(.ref b21)])) st21 ?_
                  have Zq22 : n0 ≤ T21.heap.size := (Nat.le_trans (Nat.le_trans (Nat.le_trans (Nat.le_trans (Nat.le_trans Z0 E11.1) E12.1) K13.1) K14.1) K21.1)
                  obtain ⟨cq22, kq22, q22a, q22b, q22c⟩ := isOf hZ rfl P21_0
                  obtain ⟨_, _, ⟨T22, L22, k22, n22⟩, -, X22, ⟨Lc22, hQ22, l22, y22, z22⟩, st22⟩ := X21.virtualBack hx (y := (⟨"wayfarer/process/RepeatStep", "stops", "()Z"⟩ : MethodName)) (z := (⟨"wayfarer/process/RepeatStep", "stops", "()Z"⟩ : MethodName)) hown (mvT hZ (hw _ (List.mem_of_getElem? (i := 57) rfl))) (mvT hZ (hw _ (List.mem_of_getElem? (i := 58) rfl))) (notFace_of_selects (args := #[]) (mvT hZ (hw _ (List.mem_of_getElem? (i := 60) rfl)))) (mvT hZ (hw _ (List.mem_of_getElem? (i := 60) rfl))) (mvT hZ (hw _ (List.mem_of_getElem? (i := 59) rfl))) (by decide) (backOf (W := 0) (rm8n l Z a0 hw [] b21 (i3 &&& (2147483647 : Int32)) T21.heap n0 Zq22 P21_1 P21_2) hZ (hw _ (List.mem_of_getElem? (i := 61) rfl)) (hw _ (List.mem_of_getElem? (i := 44) rfl)) (by decide) (by decide)) q22a q22c (g := (mkF m 193 #[.val (.int i1), .val (.int i2), .val (.int i3), .val (.int v3_2_s0), .val (.int v15_4_s0), .val (.int v29_6_s0), .val (.int v40_8_s0), .val .null, .val .null, .val (.ref b11), .val (.int v148_17_s0), .val (.int (own_st0 v40_8_s0)), .unset, .unset, .unset] [(.ref b21)])) rfl (by rw [hml]; rfl) (Steps.refl _) (argsL := []) (rest := []) (lenOf pd_1 rfl) rfl (by show 2 * 0 + _ ≤ _; exact Nat.le_of_eq rfl) (hb hby at_193) (fun _ _ => ⟨rfl, rfl, (by decide : 3 + 0 ≤ _), (by decide : 11 + 0 ≤ _)⟩)
                  dsimp only [Pt.U, Pt.locs, Pt.cells, Pt.slots] at X22 l22 y22 z22 st22 hQ22
                  subst l22 y22 z22
                  obtain ⟨rfl, rfl, e22⟩ := hQ22
                  try rw [List.append_nil] at X22
                  refine own_jump (f' := (mkF m 196 #[.val (.int i1), .val (.int i2), .val (.int i3), .val (.int v3_2_s0), .val (.int v15_4_s0), .val (.int v29_6_s0), .val (.int v40_8_s0), .val .null, .val .null, .val (.ref b11), .val (.int v148_17_s0), .val (.int (own_st0 v40_8_s0)), .unset, .unset, .unset] [(.int (own_st0 (i3 &&& (2147483647 : Int32))))])) st22 ?_
                  refine own_step (f' := (mkF m 198 #[.val (.int i1), .val (.int i2), .val (.int i3), .val (.int v3_2_s0), .val (.int v15_4_s0), .val (.int v29_6_s0), .val (.int v40_8_s0), .val .null, .val .null, .val (.ref b11), .val (.int v148_17_s0), .val (.int (own_st0 v40_8_s0)), .val (.int (own_st0 (i3 &&& (2147483647 : Int32)))), .unset, .unset] [])) (fun _ k => XS.istore X22.here hx rfl (hb hby at_196) rfl (l' := #[.val (.int i1), .val (.int i2), .val (.int i3), .val (.int v3_2_s0), .val (.int v15_4_s0), .val (.int v29_6_s0), .val (.int v40_8_s0), .val .null, .val .null, .val (.ref b11), .val (.int v148_17_s0), .val (.int (own_st0 v40_8_s0)), .val (.int (own_st0 (i3 &&& (2147483647 : Int32)))), .unset, .unset]) rfl k) ?_
                  obtain ⟨T23, h23, X23, e23, E23, A23, D23, -, st23⟩ := newO X22 hx hZ hown (hw _ (List.mem_of_getElem? (i := 0) rfl)) (hw _ (List.mem_of_getElem? (i := 1) rfl)) (hw _ (List.mem_of_getElem? (i := 2) rfl)) e22 (g := (mkF m 198 #[.val (.int i1), .val (.int i2), .val (.int i3), .val (.int v3_2_s0), .val (.int v15_4_s0), .val (.int v29_6_s0), .val (.int v40_8_s0), .val .null, .val .null, .val (.ref b11), .val (.int v148_17_s0), .val (.int (own_st0 v40_8_s0)), .val (.int (own_st0 (i3 &&& (2147483647 : Int32)))), .unset, .unset] [])) rfl (hb hby at_198) (by decide) (by decide)
                  obtain ⟨b23, g23⟩ : ∃ z, z = T21.heap.size := ⟨_, rfl⟩
                  rw [← g23] at A23 D23 st23
                  have ne_b11_b23 : b11 ≠ b23 := Nat.ne_of_lt (Nat.lt_of_lt_of_le (P14_0.keep K21).lt (Nat.le_of_eq g23.symm))
                  have ne_b12_b23 : b12 ≠ b23 := Nat.ne_of_lt (Nat.lt_of_lt_of_le ((P13_0.keep K14).keep K21).lt (Nat.le_of_eq g23.symm))
                  have ne_b21_b23 : b21 ≠ b23 := Nat.ne_of_lt (Nat.lt_of_lt_of_le P21_0.lt (Nat.le_of_eq g23.symm))
                  have g_b23 : n0 ≤ b23 := Nat.le_trans (Nat.le_trans (Nat.le_trans (Nat.le_trans (Nat.le_trans (Nat.le_trans Z0 E11.1) E12.1) K13.1) K14.1) K21.1) (Nat.le_of_eq g23.symm)
                  have F_steps_b23 : Fld Z h23 b23 "wayfarer/process/RepeatStep$Condition" "steps" "Ljava/util/List;" .null := D23 (Or.inr (hw _ (List.mem_of_getElem? (i := 39) rfl))) (ty := (.object "java/util/List")) (by decide)
                  have F_ahead_b23 : Fld Z h23 b23 "wayfarer/process/RepeatStep$Condition" "ahead" "Z" (.int (0 : Int32)) := D23 (Or.inr (hw _ (List.mem_of_getElem? (i := 41) rfl))) (ty := .boolean) (by decide)
                  refine own_step (f' := (mkF m 201 #[.val (.int i1), .val (.int i2), .val (.int i3), .val (.int v3_2_s0), .val (.int v15_4_s0), .val (.int v29_6_s0), .val (.int v40_8_s0), .val .null, .val .null, .val (.ref b11), .val (.int v148_17_s0), .val (.int (own_st0 v40_8_s0)), .val (.int (own_st0 (i3 &&& (2147483647 : Int32)))), .unset, .unset] [(.ref b23)])) st23 ?_
                  refine own_step (f' := (mkF m 202 #[.val (.int i1), .val (.int i2), .val (.int i3), .val (.int v3_2_s0), .val (.int v15_4_s0), .val (.int v29_6_s0), .val (.int v40_8_s0), .val .null, .val .null, .val (.ref b11), .val (.int v148_17_s0), .val (.int (own_st0 v40_8_s0)), .val (.int (own_st0 (i3 &&& (2147483647 : Int32)))), .unset, .unset] [(.ref b23), (.ref b23)])) (fun _ k => XS.dup X23.here hx rfl (hb hby at_201) rfl rfl k) ?_
                  obtain ⟨T24, h24, X24, e24, E24, A24, D24, -, st24⟩ := newO X23 hx hZ hown (hw _ (List.mem_of_getElem? (i := 3) rfl)) (hw _ (List.mem_of_getElem? (i := 4) rfl)) (hw _ (List.mem_of_getElem? (i := 5) rfl)) e23 (g := (mkF m 202 #[.val (.int i1), .val (.int i2), .val (.int i3), .val (.int v3_2_s0), .val (.int v15_4_s0), .val (.int v29_6_s0), .val (.int v40_8_s0), .val .null, .val .null, .val (.ref b11), .val (.int v148_17_s0), .val (.int (own_st0 v40_8_s0)), .val (.int (own_st0 (i3 &&& (2147483647 : Int32)))), .unset, .unset] [(.ref b23), (.ref b23)])) rfl (hb hby at_202) (by decide) (by decide)
                  obtain ⟨b24, g24⟩ : ∃ z, z = h23.size := ⟨_, rfl⟩
                  rw [← g24] at A24 D24 st24
                  have ne_b11_b24 : b11 ≠ b24 := Nat.ne_of_lt (Nat.lt_of_lt_of_le ((P14_0.keep K21).ext E23).lt (Nat.le_of_eq g24.symm))
                  have ne_b12_b24 : b12 ≠ b24 := Nat.ne_of_lt (Nat.lt_of_lt_of_le (((P13_0.keep K14).keep K21).ext E23).lt (Nat.le_of_eq g24.symm))
                  have ne_b21_b24 : b21 ≠ b24 := Nat.ne_of_lt (Nat.lt_of_lt_of_le (P21_0.ext E23).lt (Nat.le_of_eq g24.symm))
                  have ne_b23_b24 : b23 ≠ b24 := Nat.ne_of_lt (Nat.lt_of_lt_of_le A23.lt (Nat.le_of_eq g24.symm))
                  have g_b24 : n0 ≤ b24 := Nat.le_trans (Nat.le_trans (Nat.le_trans (Nat.le_trans (Nat.le_trans (Nat.le_trans (Nat.le_trans Z0 E11.1) E12.1) K13.1) K14.1) K21.1) E23.1) (Nat.le_of_eq g24.symm)
                  have F_modCount_b24 : Fld Z h24 b24 "java/util/AbstractList" "modCount" "I" (.int (0 : Int32)) := D24 (Or.inl (hw _ (List.mem_of_getElem? (i := 25) rfl))) (ty := .int) (by decide)
                  have F_elementData_b24 : Fld Z h24 b24 "java/util/ArrayList" "elementData" "[Ljava/lang/Object;" .null := D24 (Or.inl (hw _ (List.mem_of_getElem? (i := 28) rfl))) (ty := (.array (.object "java/lang/Object"))) (by decide)
                  refine own_step (f' := (mkF m 205 #[.val (.int i1), .val (.int i2), .val (.int i3), .val (.int v3_2_s0), .val (.int v15_4_s0), .val (.int v29_6_s0), .val (.int v40_8_s0), .val .null, .val .null, .val (.ref b11), .val (.int v148_17_s0), .val (.int (own_st0 v40_8_s0)), .val (.int (own_st0 (i3 &&& (2147483647 : Int32)))), .unset, .unset] [(.ref b24), (.ref b23), (.ref b23)])) st24 ?_
                  refine own_step (f' := (mkF m 206 #[.val (.int i1), .val (.int i2), .val (.int i3), .val (.int v3_2_s0), .val (.int v15_4_s0), .val (.int v29_6_s0), .val (.int v40_8_s0), .val .null, .val .null, .val (.ref b11), .val (.int v148_17_s0), .val (.int (own_st0 v40_8_s0)), .val (.int (own_st0 (i3 &&& (2147483647 : Int32)))), .unset, .unset] [(.ref b24), (.ref b24), (.ref b23), (.ref b23)])) (fun _ k => XS.dup X24.here hx rfl (hb hby at_205) rfl rfl k) ?_
                  have Zq25 : n0 ≤ h24.size := (Nat.le_trans (Nat.le_trans (Nat.le_trans (Nat.le_trans (Nat.le_trans (Nat.le_trans (Nat.le_trans Z0 E11.1) E12.1) K13.1) K14.1) K21.1) E23.1) E24.1)
                  obtain ⟨_, _, ⟨T25, L25, k25, n25⟩, -, X25, ⟨Lc25, hQ25, l25, y25, z25⟩, st25⟩ := X24.specialBack hx (y := (⟨"java/util/ArrayList", "<init>", "()V"⟩ : MethodName)) rfl hown (mvT hZ (hw _ (List.mem_of_getElem? (i := 6) rfl))) (mvT hZ (hw _ (List.mem_of_getElem? (i := 7) rfl))) (mvT hZ (hw _ (List.mem_of_getElem? (i := 8) rfl))) (by decide) (backOf (W := 3) (rm1 l Z a0 hw [] b24 (.int (0 : Int32)) .null w1 h24 n0 Zq25 A24 F_modCount_b24 g_b24 (((own_staKeep (own_staKeep (own_staKeep ((S_DEFAULTCAPACITY_EMPTY_ELEMENTDATA.ext E11).ext E12) K13 (allS (own_exaNS A12) all0)) K14 (allS (own_exaNS ((A11.ext E12).keep K13)) all0)) K21 all0).ext E23).ext E24) F_elementData_b24) hZ (hw _ (List.mem_of_getElem? (i := 8) rfl)) (hw _ (List.mem_of_getElem? (i := 5) rfl)) (by decide) (by decide)) (g := (mkF m 206 #[.val (.int i1), .val (.int i2), .val (.int i3), .val (.int v3_2_s0), .val (.int v15_4_s0), .val (.int v29_6_s0), .val (.int v40_8_s0), .val .null, .val .null, .val (.ref b11), .val (.int v148_17_s0), .val (.int (own_st0 v40_8_s0)), .val (.int (own_st0 (i3 &&& (2147483647 : Int32)))), .unset, .unset] [(.ref b24), (.ref b24), (.ref b23), (.ref b23)])) rfl (by rw [hml]; rfl) (Steps.refl _) (a := b24) (argsL := []) (rest := [(.ref b24), (.ref b23), (.ref b23)]) (lenOf pd_0 rfl) rfl (by show 2 * 0 + _ ≤ _; exact Nat.le_of_eq rfl) (hb hby at_206) (fun _ _ => ⟨rfl, e24, (by decide : 5 + 0 ≤ _), (by decide : 16 + 0 ≤ _)⟩)
                  dsimp only [Pt.U, Pt.locs, Pt.cells, Pt.slots] at X25 l25 y25 z25 st25 hQ25
                  subst l25 y25 z25
                  obtain ⟨rfl, Nq25, K25, P25_0, P25_1, P25_2⟩ := hQ25
                  obtain ⟨Lo25, X25, N25⟩ : ∃ K, Stand p l e room_1 s m #[(.int i1), (.int i2), (.int i3)] below meth c T25 K 5 16 ∧ Fr n0 K := ⟨_, X25, (Fr.app N21 Nq25)⟩
                  refine own_jump (f' := (mkF m 209 #[.val (.int i1), .val (.int i2), .val (.int i3), .val (.int v3_2_s0), .val (.int v15_4_s0), .val (.int v29_6_s0), .val (.int v40_8_s0), .val .null, .val .null, .val (.ref b11), .val (.int v148_17_s0), .val (.int (own_st0 v40_8_s0)), .val (.int (own_st0 (i3 &&& (2147483647 : Int32)))), .unset, .unset] [(.ref b24), (.ref b23), (.ref b23)])) st25 ?_
                  refine own_step (f' := (mkF m 210 #[.val (.int i1), .val (.int i2), .val (.int i3), .val (.int v3_2_s0), .val (.int v15_4_s0), .val (.int v29_6_s0), .val (.int v40_8_s0), .val .null, .val .null, .val (.ref b11), .val (.int v148_17_s0), .val (.int (own_st0 v40_8_s0)), .val (.int (own_st0 (i3 &&& (2147483647 : Int32)))), .unset, .unset] [(.int i2), (.ref b24), (.ref b23), (.ref b23)])) (fun _ k => XS.iloadN X25.here hx rfl (hb hby at_209) rfl k) ?_
                  refine own_step (f' := (mkF m 212 #[.val (.int i1), .val (.int i2), .val (.int i3), .val (.int v3_2_s0), .val (.int v15_4_s0), .val (.int v29_6_s0), .val (.int v40_8_s0), .val .null, .val .null, .val (.ref b11), .val (.int v148_17_s0), .val (.int (own_st0 v40_8_s0)), .val (.int (own_st0 (i3 &&& (2147483647 : Int32)))), .unset, .unset] [(.int (32 : Int32)), (.int i2), (.ref b24), (.ref b23), (.ref b23)])) (fun _ k => XS.bipush X25.here hx rfl (hb hby at_210) k) ?_
                  refine own_step (f' := (mkF m 213 #[.val (.int i1), .val (.int i2), .val (.int i3), .val (.int v3_2_s0), .val (.int v15_4_s0), .val (.int v29_6_s0), .val (.int v40_8_s0), .val .null, .val .null, .val (.ref b11), .val (.int v148_17_s0), .val (.int (own_st0 v40_8_s0)), .val (.int (own_st0 (i3 &&& (2147483647 : Int32)))), .unset, .unset] [(.int (i2 &&& (32 : Int32))), (.ref b24), (.ref b23), (.ref b23)])) (fun _ k => XS.iand X25.here hx rfl (hb hby at_212) rfl k) ?_
                  have J213_27 : ∀ (T213_27 : State) (v213_27_s0 : Int32), Stand p l e room_1 s m #[(.int i1), (.int i2), (.int i3)] below meth c T213_27 Lo25 5 16 → T213_27.heap = T25.heap → v213_27_s0 = (if (i2 &&& (32 : Int32)) = (0 : Int32) then (0 : Int32) else (1 : Int32)) → own_Goes p e below s (Q0 Z i1 i2 i3 w1 h0 n0) room_1.cells room_1.slots T213_27 (mkF m 221 #[.val (.int i1), .val (.int i2), .val (.int i3), .val (.int v3_2_s0), .val (.int v15_4_s0), .val (.int v29_6_s0), .val (.int v40_8_s0), .val .null, .val .null, .val (.ref b11), .val (.int v148_17_s0), .val (.int (own_st0 v40_8_s0)), .val (.int (own_st0 (i3 &&& (2147483647 : Int32)))), .unset, .unset] [(.int v213_27_s0), (.ref b24), (.ref b23), (.ref b23)]) := by
                    intro T213_27 v213_27_s0 X213_27 e213_27 hv213_27_0
                    have Zq28 : n0 ≤ T25.heap.size := (Nat.le_trans (Nat.le_trans (Nat.le_trans (Nat.le_trans (Nat.le_trans (Nat.le_trans (Nat.le_trans (Nat.le_trans Z0 E11.1) E12.1) K13.1) K14.1) K21.1) E23.1) E24.1) K25.1)
                    obtain ⟨_, _, ⟨T28, L28, k28, n28⟩, -, X28, ⟨Lc28, hQ28, l28, y28, z28⟩, st28⟩ := X213_27.specialBack hx (y := (⟨"wayfarer/process/RepeatStep$Condition", "<init>", "(Ljava/util/List;Z)V"⟩ : MethodName)) rfl hown (mvT hZ (hw _ (List.mem_of_getElem? (i := 29) rfl))) (mvT hZ (hw _ (List.mem_of_getElem? (i := 30) rfl))) (mvT hZ (hw _ (List.mem_of_getElem? (i := 31) rfl))) (by decide) (backOf (W := 1) (rm5 l Z a0 hw [] b23 b24 v213_27_s0 .null (.int (0 : Int32)) T25.heap n0 Zq28 ((A23.ext E24).keep K25) ((F_steps_b23.ext E24).keep K25 (ninS ne_b23_b24 nin0)) ((F_ahead_b23.ext E24).keep K25 (ninS ne_b23_b24 nin0)) g_b23) hZ (hw _ (List.mem_of_getElem? (i := 31) rfl)) (hw _ (List.mem_of_getElem? (i := 2) rfl)) (by decide) (by decide)) (g := (mkF m 221 #[.val (.int i1), .val (.int i2), .val (.int i3), .val (.int v3_2_s0), .val (.int v15_4_s0), .val (.int v29_6_s0), .val (.int v40_8_s0), .val .null, .val .null, .val (.ref b11), .val (.int v148_17_s0), .val (.int (own_st0 v40_8_s0)), .val (.int (own_st0 (i3 &&& (2147483647 : Int32)))), .unset, .unset] [(.int v213_27_s0), (.ref b24), (.ref b23), (.ref b23)])) rfl (by rw [hml]; rfl) (Steps.refl _) (a := b23) (argsL := [(.ref b24), (.int v213_27_s0)]) (rest := [(.ref b23)]) (lenOf pd_4 rfl) rfl (by show 2 * 0 + _ ≤ _; exact Nat.le_of_eq rfl) (hb hby at_221) (fun _ _ => ⟨rfl, e213_27, (by decide : 5 + 0 ≤ _), (by decide : 16 + 0 ≤ _)⟩)
                    dsimp only [Pt.U, Pt.locs, Pt.cells, Pt.slots] at X28 l28 y28 z28 st28 hQ28
                    subst l28 y28 z28
                    obtain ⟨rfl, Nq28, K28, P28_0⟩ := hQ28
                    obtain ⟨Lo28, X28, N28⟩ : ∃ K, Stand p l e room_1 s m #[(.int i1), (.int i2), (.int i3)] below meth c T28 K 5 16 ∧ Fr n0 K := ⟨_, X28, (Fr.app N25 Nq28)⟩
                    refine own_jump (f' := (mkF m 224 #[.val (.int i1), .val (.int i2), .val (.int i3), .val (.int v3_2_s0), .val (.int v15_4_s0), .val (.int v29_6_s0), .val (.int v40_8_s0), .val .null, .val .null, .val (.ref b11), .val (.int v148_17_s0), .val (.int (own_st0 v40_8_s0)), .val (.int (own_st0 (i3 &&& (2147483647 : Int32)))), .unset, .unset] [(.ref b23)])) st28 ?_
                    refine own_step (f' := (mkF m 226 #[.val (.int i1), .val (.int i2), .val (.int i3), .val (.int v3_2_s0), .val (.int v15_4_s0), .val (.int v29_6_s0), .val (.int v40_8_s0), .val .null, .val .null, .val (.ref b11), .val (.int v148_17_s0), .val (.int (own_st0 v40_8_s0)), .val (.int (own_st0 (i3 &&& (2147483647 : Int32)))), .val (.ref b23), .unset] [])) (fun _ k => XS.astore X28.here hx rfl (hb hby at_224) rfl rfl (l' := #[.val (.int i1), .val (.int i2), .val (.int i3), .val (.int v3_2_s0), .val (.int v15_4_s0), .val (.int v29_6_s0), .val (.int v40_8_s0), .val .null, .val .null, .val (.ref b11), .val (.int v148_17_s0), .val (.int (own_st0 v40_8_s0)), .val (.int (own_st0 (i3 &&& (2147483647 : Int32)))), .val (.ref b23), .unset]) rfl k) ?_
                    refine own_step (f' := (mkF m 228 #[.val (.int i1), .val (.int i2), .val (.int i3), .val (.int v3_2_s0), .val (.int v15_4_s0), .val (.int v29_6_s0), .val (.int v40_8_s0), .val .null, .val .null, .val (.ref b11), .val (.int v148_17_s0), .val (.int (own_st0 v40_8_s0)), .val (.int (own_st0 (i3 &&& (2147483647 : Int32)))), .val (.ref b23), .unset] [(.ref b11)])) (fun _ k => XS.aload X28.here hx rfl (hb hby at_226) rfl rfl k) ?_
                    refine own_step (f' := (mkF m 230 #[.val (.int i1), .val (.int i2), .val (.int i3), .val (.int v3_2_s0), .val (.int v15_4_s0), .val (.int v29_6_s0), .val (.int v40_8_s0), .val .null, .val .null, .val (.ref b11), .val (.int v148_17_s0), .val (.int (own_st0 v40_8_s0)), .val (.int (own_st0 (i3 &&& (2147483647 : Int32)))), .val (.ref b23), .unset] [(.ref b23), (.ref b11)])) (fun _ k => XS.aload X28.here hx rfl (hb hby at_228) rfl rfl k) ?_
                    have hp29_hp : own_st0 v40_8_s0 = (0 : Int32) := hc181_20
                    have Zq29 : n0 ≤ T28.heap.size := (Nat.le_trans (Nat.le_trans (Nat.le_trans (Nat.le_trans (Nat.le_trans (Nat.le_trans (Nat.le_trans (Nat.le_trans (Nat.le_trans Z0 E11.1) E12.1) K13.1) K14.1) K21.1) E23.1) E24.1) K25.1) K28.1)
                    obtain ⟨cq29, kq29, q29a, q29b, q29c⟩ := isOf hZ rfl (((((P14_0.keep K21).ext E23).ext E24).keep K25).keep K28)
                    obtain ⟨_, _, ⟨T29, L29, k29, n29⟩, -, X29, ⟨Lc29, hQ29, l29, y29, z29⟩, st29⟩ := X28.virtualBack hx (y := (⟨"wayfarer/process/RepeatStep", "withUntil", "(Lwayfarer/process/RepeatStep$Condition;)Lwayfarer/process/RepeatStep;"⟩ : MethodName)) (z := (⟨"wayfarer/process/RepeatStep", "withUntil", "(Lwayfarer/process/RepeatStep$Condition;)Lwayfarer/process/RepeatStep;"⟩ : MethodName)) hown (mvT hZ (hw _ (List.mem_of_getElem? (i := 75) rfl))) (mvT hZ (hw _ (List.mem_of_getElem? (i := 76) rfl))) (notFace_of_selects (args := #[]) (mvT hZ (hw _ (List.mem_of_getElem? (i := 78) rfl)))) (mvT hZ (hw _ (List.mem_of_getElem? (i := 78) rfl))) (mvT hZ (hw _ (List.mem_of_getElem? (i := 77) rfl))) (by decide) (backOf (W := 0) (rm11n l Z a0 hw [] b11 b23 b12 v40_8_s0 T28.heap n0 Zq29 (((((P14_0.keep K21).ext E23).ext E24).keep K25).keep K28) (((((P14_1.keep K21 nin0).ext E23).ext E24).keep K25 (ninS ne_b11_b24 nin0)).keep K28 (ninS ne_b11_b23 nin0)) (((((P14_2.keep K21 nin0).ext E23).ext E24).keep K25 (ninS ne_b11_b24 nin0)).keep K28 (ninS ne_b11_b23 nin0)) (((((P14_3.keep K21 nin0).ext E23).ext E24).keep K25 (ninS ne_b11_b24 nin0)).keep K28 (ninS ne_b11_b23 nin0)) (((((P14_4.keep K21 nin0).ext E23).ext E24).keep K25 (ninS ne_b11_b24 nin0)).keep K28 (ninS ne_b11_b23 nin0)) hp29_hp) hZ (hw _ (List.mem_of_getElem? (i := 79) rfl)) (hw _ (List.mem_of_getElem? (i := 44) rfl)) (by decide) (by decide)) q29a q29c (g := (mkF m 230 #[.val (.int i1), .val (.int i2), .val (.int i3), .val (.int v3_2_s0), .val (.int v15_4_s0), .val (.int v29_6_s0), .val (.int v40_8_s0), .val .null, .val .null, .val (.ref b11), .val (.int v148_17_s0), .val (.int (own_st0 v40_8_s0)), .val (.int (own_st0 (i3 &&& (2147483647 : Int32)))), .val (.ref b23), .unset] [(.ref b23), (.ref b11)])) rfl (by rw [hml]; rfl) (Steps.refl _) (argsL := [(.ref b23)]) (rest := []) (lenOf pd_5 rfl) rfl (by show 2 * 0 + _ ≤ _; exact Nat.le_of_eq rfl) (hb hby at_230) (fun _ _ => ⟨rfl, rfl, (by decide : 5 + 1 ≤ _), (by decide : 16 + 4 ≤ _)⟩)
                    dsimp only [Pt.U, Pt.locs, Pt.cells, Pt.slots] at X29 l29 y29 z29 st29 hQ29
                    subst l29 y29 z29
                    obtain ⟨b29, rfl, g_b29, sq_b29, Nq29, K29, P29_0, P29_1, P29_2⟩ := hQ29
                    obtain ⟨Lo29, X29, N29⟩ : ∃ K, Stand p l e room_1 s m #[(.int i1), (.int i2), (.int i3)] below meth c T29 K 6 20 ∧ Fr n0 K := ⟨_, X29, (Fr.app N28 Nq29)⟩
                    have ne_b11_b29 : b11 ≠ b29 := Nat.ne_of_lt (Nat.lt_of_lt_of_le (((((P14_0.keep K21).ext E23).ext E24).keep K25).keep K28).lt sq_b29)
                    have ne_b12_b29 : b12 ≠ b29 := Nat.ne_of_lt (Nat.lt_of_lt_of_le ((((((P13_0.keep K14).keep K21).ext E23).ext E24).keep K25).keep K28).lt sq_b29)
                    have ne_b21_b29 : b21 ≠ b29 := Nat.ne_of_lt (Nat.lt_of_lt_of_le ((((P21_0.ext E23).ext E24).keep K25).keep K28).lt sq_b29)
                    have ne_b23_b29 : b23 ≠ b29 := Nat.ne_of_lt (Nat.lt_of_lt_of_le P28_0.lt sq_b29)
                    have ne_b24_b29 : b24 ≠ b29 := Nat.ne_of_lt (Nat.lt_of_lt_of_le (P25_0.keep K28).lt sq_b29)
                    refine own_jump (f' := (mkF m 233 #[.val (.int i1), .val (.int i2), .val (.int i3), .val (.int v3_2_s0), .val (.int v15_4_s0), .val (.int v29_6_s0), .val (.int v40_8_s0), .val .null, .val .null, .val (.ref b11), .val (.int v148_17_s0), .val (.int (own_st0 v40_8_s0)), .val (.int (own_st0 (i3 &&& (2147483647 : Int32)))), .val (.ref b23), .unset] [(.ref b29)])) st29 ?_
                    have Zq30 : n0 ≤ T29.heap.size := (Nat.le_trans (Nat.le_trans (Nat.le_trans (Nat.le_trans (Nat.le_trans (Nat.le_trans (Nat.le_trans (Nat.le_trans (Nat.le_trans (Nat.le_trans Z0 E11.1) E12.1) K13.1) K14.1) K21.1) E23.1) E24.1) K25.1) K28.1) K29.1)
                    obtain ⟨cq30, kq30, q30a, q30b, q30c⟩ := isOf hZ rfl P29_0
                    obtain ⟨_, _, ⟨T30, L30, k30, n30⟩, -, X30, ⟨Lc30, hQ30, l30, y30, z30⟩, st30⟩ := X29.virtualBack hx (y := (⟨"wayfarer/process/RepeatStep", "stops", "()Z"⟩ : MethodName)) (z := (⟨"wayfarer/process/RepeatStep", "stops", "()Z"⟩ : MethodName)) hown (mvT hZ (hw _ (List.mem_of_getElem? (i := 57) rfl))) (mvT hZ (hw _ (List.mem_of_getElem? (i := 58) rfl))) (notFace_of_selects (args := #[]) (mvT hZ (hw _ (List.mem_of_getElem? (i := 60) rfl)))) (mvT hZ (hw _ (List.mem_of_getElem? (i := 60) rfl))) (mvT hZ (hw _ (List.mem_of_getElem? (i := 59) rfl))) (by decide) (backOf (W := 0) (rm8r l Z a0 hw [] b29 v40_8_s0 b23 T29.heap n0 Zq30 P29_1 P29_2) hZ (hw _ (List.mem_of_getElem? (i := 61) rfl)) (hw _ (List.mem_of_getElem? (i := 44) rfl)) (by decide) (by decide)) q30a q30c (g := (mkF m 233 #[.val (.int i1), .val (.int i2), .val (.int i3), .val (.int v3_2_s0), .val (.int v15_4_s0), .val (.int v29_6_s0), .val (.int v40_8_s0), .val .null, .val .null, .val (.ref b11), .val (.int v148_17_s0), .val (.int (own_st0 v40_8_s0)), .val (.int (own_st0 (i3 &&& (2147483647 : Int32)))), .val (.ref b23), .unset] [(.ref b29)])) rfl (by rw [hml]; rfl) (Steps.refl _) (argsL := []) (rest := []) (lenOf pd_1 rfl) rfl (by show 2 * 0 + _ ≤ _; exact Nat.le_of_eq rfl) (hb hby at_233) (fun _ _ => ⟨rfl, rfl, (by decide : 6 + 0 ≤ _), (by decide : 20 + 0 ≤ _)⟩)
                    dsimp only [Pt.U, Pt.locs, Pt.cells, Pt.slots] at X30 l30 y30 z30 st30 hQ30
                    subst l30 y30 z30
                    obtain ⟨rfl, rfl, e30⟩ := hQ30
                    try rw [List.append_nil] at X30
                    refine own_jump (f' := (mkF m 236 #[.val (.int i1), .val (.int i2), .val (.int i3), .val (.int v3_2_s0), .val (.int v15_4_s0), .val (.int v29_6_s0), .val (.int v40_8_s0), .val .null, .val .null, .val (.ref b11), .val (.int v148_17_s0), .val (.int (own_st0 v40_8_s0)), .val (.int (own_st0 (i3 &&& (2147483647 : Int32)))), .val (.ref b23), .unset] [(.int (1 : Int32))])) st30 ?_
                    refine own_step (f' := (mkF m 238 #[.val (.int i1), .val (.int i2), .val (.int i3), .val (.int v3_2_s0), .val (.int v15_4_s0), .val (.int v29_6_s0), .val (.int v40_8_s0), .val .null, .val .null, .val (.ref b11), .val (.int v148_17_s0), .val (.int (own_st0 v40_8_s0)), .val (.int (own_st0 (i3 &&& (2147483647 : Int32)))), .val (.ref b23), .val (.int (1 : Int32))] [])) (fun _ k => XS.istore X30.here hx rfl (hb hby at_236) rfl (l' := #[.val (.int i1), .val (.int i2), .val (.int i3), .val (.int v3_2_s0), .val (.int v15_4_s0), .val (.int v29_6_s0), .val (.int v40_8_s0), .val .null, .val .null, .val (.ref b11), .val (.int v148_17_s0), .val (.int (own_st0 v40_8_s0)), .val (.int (own_st0 (i3 &&& (2147483647 : Int32)))), .val (.ref b23), .val (.int (1 : Int32))]) rfl k) ?_
                    refine own_step (f' := (mkF m 240 #[.val (.int i1), .val (.int i2), .val (.int i3), .val (.int v3_2_s0), .val (.int v15_4_s0), .val (.int v29_6_s0), .val (.int v40_8_s0), .val .null, .val .null, .val (.ref b11), .val (.int v148_17_s0), .val (.int (own_st0 v40_8_s0)), .val (.int (own_st0 (i3 &&& (2147483647 : Int32)))), .val (.ref b23), .val (.int (1 : Int32))] [(.int (own_st0 (i3 &&& (2147483647 : Int32))))])) (fun _ k => XS.iload X30.here hx rfl (hb hby at_238) rfl k) ?_
                    have hf240_31 : ¬ ((own_st0 (i3 &&& (2147483647 : Int32))) = (0 : Int32)) := own_m i3
                    refine own_step (f' := (mkF m 243 #[.val (.int i1), .val (.int i2), .val (.int i3), .val (.int v3_2_s0), .val (.int v15_4_s0), .val (.int v29_6_s0), .val (.int v40_8_s0), .val .null, .val .null, .val (.ref b11), .val (.int v148_17_s0), .val (.int (own_st0 v40_8_s0)), .val (.int (own_st0 (i3 &&& (2147483647 : Int32)))), .val (.ref b23), .val (.int (1 : Int32))] [])) (fun _ k => XS.ifNo X30.here hx rfl (hb hby at_240) rfl ((if0 _ _).trans (feq hf240_31).1) k) ?_
                    refine own_step (f' := (mkF m 245 #[.val (.int i1), .val (.int i2), .val (.int i3), .val (.int v3_2_s0), .val (.int v15_4_s0), .val (.int v29_6_s0), .val (.int v40_8_s0), .val .null, .val .null, .val (.ref b11), .val (.int v148_17_s0), .val (.int (own_st0 v40_8_s0)), .val (.int (own_st0 (i3 &&& (2147483647 : Int32)))), .val (.ref b23), .val (.int (1 : Int32))] [(.int (1 : Int32))])) (fun _ k => XS.iload X30.here hx rfl (hb hby at_243) rfl k) ?_
                    refine own_step (f' := (mkF m 248 #[.val (.int i1), .val (.int i2), .val (.int i3), .val (.int v3_2_s0), .val (.int v15_4_s0), .val (.int v29_6_s0), .val (.int v40_8_s0), .val .null, .val .null, .val (.ref b11), .val (.int v148_17_s0), .val (.int (own_st0 v40_8_s0)), .val (.int (own_st0 (i3 &&& (2147483647 : Int32)))), .val (.ref b23), .val (.int (1 : Int32))] [])) (fun _ k => XS.ifNo X30.here hx rfl (hb hby at_245) rfl ((if0 _ _).trans (feq (by decide : ¬ ((1 : Int32) = (0 : Int32)))).1) k) ?_
                    refine own_step (f' := (mkF m 249 #[.val (.int i1), .val (.int i2), .val (.int i3), .val (.int v3_2_s0), .val (.int v15_4_s0), .val (.int v29_6_s0), .val (.int v40_8_s0), .val .null, .val .null, .val (.ref b11), .val (.int v148_17_s0), .val (.int (own_st0 v40_8_s0)), .val (.int (own_st0 (i3 &&& (2147483647 : Int32)))), .val (.ref b23), .val (.int (1 : Int32))] [(.int (1 : Int32))])) (fun _ k => XS.iconst X30.here hx rfl (hb hby at_248) k) ?_
                    refine own_step (f' := (mkF m 253 #[.val (.int i1), .val (.int i2), .val (.int i3), .val (.int v3_2_s0), .val (.int v15_4_s0), .val (.int v29_6_s0), .val (.int v40_8_s0), .val .null, .val .null, .val (.ref b11), .val (.int v148_17_s0), .val (.int (own_st0 v40_8_s0)), .val (.int (own_st0 (i3 &&& (2147483647 : Int32)))), .val (.ref b23), .val (.int (1 : Int32))] [(.int (1 : Int32))])) (fun _ k => XS.goto X30.here hx rfl (pc0 := 249) (pc' := 253) rfl (hb hby at_249) (by decide) (by decide) k) ?_
                    refine own_out (v := some (.int (1 : Int32))) X30 hlk (fun h => by rw [Bd.returns] at h; cases h) (fun fs hr => retN X30 hx (t := .boolean) Bd.returns (by simp) (hb hby at_253) hr) (by decide) (by decide) ?_
                    exact ⟨rfl, N29⟩
                  by_cases hc213_26 : (i2 &&& (32 : Int32)) = (0 : Int32)
                  · refine own_step (f' := (mkF m 220 #[.val (.int i1), .val (.int i2), .val (.int i3), .val (.int v3_2_s0), .val (.int v15_4_s0), .val (.int v29_6_s0), .val (.int v40_8_s0), .val .null, .val .null, .val (.ref b11), .val (.int v148_17_s0), .val (.int (own_st0 v40_8_s0)), .val (.int (own_st0 (i3 &&& (2147483647 : Int32)))), .unset, .unset] [(.ref b24), (.ref b23), (.ref b23)])) (fun _ k => XS.ifYes X25.here hx rfl (pc0 := 213) (pc' := 220) rfl (hb hby at_213) rfl ((if0 _ _).trans (teq hc213_26).1) (by decide) (by decide) k) ?_
                    refine own_step (f' := (mkF m 221 #[.val (.int i1), .val (.int i2), .val (.int i3), .val (.int v3_2_s0), .val (.int v15_4_s0), .val (.int v29_6_s0), .val (.int v40_8_s0), .val .null, .val .null, .val (.ref b11), .val (.int v148_17_s0), .val (.int (own_st0 v40_8_s0)), .val (.int (own_st0 (i3 &&& (2147483647 : Int32)))), .unset, .unset] [(.int (0 : Int32)), (.ref b24), (.ref b23), (.ref b23)])) (fun _ k => XS.iconst X25.here hx rfl (hb hby at_220) k) ?_
                    exact J213_27 _ (0 : Int32) X25 rfl (by rw [if_pos hc213_26])
                  · refine own_step (f' := (mkF m 216 #[.val (.int i1), .val (.int i2), .val (.int i3), .val (.int v3_2_s0), .val (.int v15_4_s0), .val (.int v29_6_s0), .val (.int v40_8_s0), .val .null, .val .null, .val (.ref b11), .val (.int v148_17_s0), .val (.int (own_st0 v40_8_s0)), .val (.int (own_st0 (i3 &&& (2147483647 : Int32)))), .unset, .unset] [(.ref b24), (.ref b23), (.ref b23)])) (fun _ k => XS.ifNo X25.here hx rfl (hb hby at_213) rfl ((if0 _ _).trans (feq hc213_26).1) k) ?_
                    refine own_step (f' := (mkF m 217 #[.val (.int i1), .val (.int i2), .val (.int i3), .val (.int v3_2_s0), .val (.int v15_4_s0), .val (.int v29_6_s0), .val (.int v40_8_s0), .val .null, .val .null, .val (.ref b11), .val (.int v148_17_s0), .val (.int (own_st0 v40_8_s0)), .val (.int (own_st0 (i3 &&& (2147483647 : Int32)))), .unset, .unset] [(.int (1 : Int32)), (.ref b24), (.ref b23), (.ref b23)])) (fun _ k => XS.iconst X25.here hx rfl (hb hby at_216) k) ?_
                    refine own_step (f' := (mkF m 221 #[.val (.int i1), .val (.int i2), .val (.int i3), .val (.int v3_2_s0), .val (.int v15_4_s0), .val (.int v29_6_s0), .val (.int v40_8_s0), .val .null, .val .null, .val (.ref b11), .val (.int v148_17_s0), .val (.int (own_st0 v40_8_s0)), .val (.int (own_st0 (i3 &&& (2147483647 : Int32)))), .unset, .unset] [(.int (1 : Int32)), (.ref b24), (.ref b23), (.ref b23)])) (fun _ k => XS.goto X25.here hx rfl (pc0 := 217) (pc' := 221) rfl (hb hby at_217) (by decide) (by decide) k) ?_
                    exact J213_27 _ (1 : Int32) X25 rfl (by rw [if_neg hc213_26])
                · refine own_step (f' := (mkF m 254 #[.val (.int i1), .val (.int i2), .val (.int i3), .val (.int v3_2_s0), .val (.int v15_4_s0), .val (.int v29_6_s0), .val (.int v40_8_s0), .val .null, .val .null, .val (.ref b11), .val (.int v148_17_s0), .val (.int (own_st0 v40_8_s0)), .unset, .unset, .unset] [])) (fun _ k => XS.ifYes X18.here hx rfl (pc0 := 181) (pc' := 254) rfl (hb hby at_181) rfl ((if0 _ _).trans (feq hc181_20).2) (by decide) (by decide) k) ?_
                  refine own_step (f' := (mkF m 255 #[.val (.int i1), .val (.int i2), .val (.int i3), .val (.int v3_2_s0), .val (.int v15_4_s0), .val (.int v29_6_s0), .val (.int v40_8_s0), .val .null, .val .null, .val (.ref b11), .val (.int v148_17_s0), .val (.int (own_st0 v40_8_s0)), .unset, .unset, .unset] [(.int (1 : Int32))])) (fun _ k => XS.iconst X18.here hx rfl (hb hby at_254) k) ?_
                  refine own_out (v := some (.int (1 : Int32))) X18 hlk (fun h => by rw [Bd.returns] at h; cases h) (fun fs hr => retN X18 hx (t := .boolean) Bd.returns (by simp) (hb hby at_255) hr) (by decide) (by decide) ?_
                  exact ⟨rfl, N14⟩
              by_cases hc148_15 : v40_8_s0 = (-1 : Int32)
              · refine own_step (f' := (mkF m 151 #[.val (.int i1), .val (.int i2), .val (.int i3), .val (.int v3_2_s0), .val (.int v15_4_s0), .val (.int v29_6_s0), .val (.int v40_8_s0), .val .null, .val .null, .val (.ref b11), .unset, .unset, .unset, .unset, .unset] [])) (fun _ k => XS.icmpNo X14.here hx rfl (hb hby at_148) rfl (teq hc148_15).2 k) ?_
                refine own_step (f' := (mkF m 153 #[.val (.int i1), .val (.int i2), .val (.int i3), .val (.int v3_2_s0), .val (.int v15_4_s0), .val (.int v29_6_s0), .val (.int v40_8_s0), .val .null, .val .null, .val (.ref b11), .unset, .unset, .unset, .unset, .unset] [(.int v15_4_s0)])) (fun _ k => XS.iload X14.here hx rfl (hb hby at_151) rfl k) ?_
                by_cases hc153_1016 : v15_4_s0 = (0 : Int32)
                · refine own_step (f' := (mkF m 160 #[.val (.int i1), .val (.int i2), .val (.int i3), .val (.int v3_2_s0), .val (.int v15_4_s0), .val (.int v29_6_s0), .val (.int v40_8_s0), .val .null, .val .null, .val (.ref b11), .unset, .unset, .unset, .unset, .unset] [])) (fun _ k => XS.ifYes X14.here hx rfl (pc0 := 153) (pc' := 160) rfl (hb hby at_153) rfl ((if0 _ _).trans (teq hc153_1016).1) (by decide) (by decide) k) ?_
                  refine own_step (f' := (mkF m 161 #[.val (.int i1), .val (.int i2), .val (.int i3), .val (.int v3_2_s0), .val (.int v15_4_s0), .val (.int v29_6_s0), .val (.int v40_8_s0), .val .null, .val .null, .val (.ref b11), .unset, .unset, .unset, .unset, .unset] [(.int (0 : Int32))])) (fun _ k => XS.iconst X14.here hx rfl (hb hby at_160) k) ?_
                  exact J148_17 _ (0 : Int32) X14 rfl (by rw [if_pos hc148_15, if_pos hc153_1016])
                · refine own_step (f' := (mkF m 156 #[.val (.int i1), .val (.int i2), .val (.int i3), .val (.int v3_2_s0), .val (.int v15_4_s0), .val (.int v29_6_s0), .val (.int v40_8_s0), .val .null, .val .null, .val (.ref b11), .unset, .unset, .unset, .unset, .unset] [])) (fun _ k => XS.ifNo X14.here hx rfl (hb hby at_153) rfl ((if0 _ _).trans (feq hc153_1016).1) k) ?_
                  refine own_step (f' := (mkF m 157 #[.val (.int i1), .val (.int i2), .val (.int i3), .val (.int v3_2_s0), .val (.int v15_4_s0), .val (.int v29_6_s0), .val (.int v40_8_s0), .val .null, .val .null, .val (.ref b11), .unset, .unset, .unset, .unset, .unset] [(.int (1 : Int32))])) (fun _ k => XS.iconst X14.here hx rfl (hb hby at_156) k) ?_
                  refine own_step (f' := (mkF m 161 #[.val (.int i1), .val (.int i2), .val (.int i3), .val (.int v3_2_s0), .val (.int v15_4_s0), .val (.int v29_6_s0), .val (.int v40_8_s0), .val .null, .val .null, .val (.ref b11), .unset, .unset, .unset, .unset, .unset] [(.int (1 : Int32))])) (fun _ k => XS.goto X14.here hx rfl (pc0 := 157) (pc' := 161) rfl (hb hby at_157) (by decide) (by decide) k) ?_
                  exact J148_17 _ (1 : Int32) X14 rfl (by rw [if_pos hc148_15, if_neg hc153_1016])
              · refine own_step (f' := (mkF m 156 #[.val (.int i1), .val (.int i2), .val (.int i3), .val (.int v3_2_s0), .val (.int v15_4_s0), .val (.int v29_6_s0), .val (.int v40_8_s0), .val .null, .val .null, .val (.ref b11), .unset, .unset, .unset, .unset, .unset] [])) (fun _ k => XS.icmpYes X14.here hx rfl (pc0 := 148) (pc' := 156) rfl (hb hby at_148) rfl (feq hc148_15).2 (by decide) (by decide) k) ?_
                refine own_step (f' := (mkF m 157 #[.val (.int i1), .val (.int i2), .val (.int i3), .val (.int v3_2_s0), .val (.int v15_4_s0), .val (.int v29_6_s0), .val (.int v40_8_s0), .val .null, .val .null, .val (.ref b11), .unset, .unset, .unset, .unset, .unset] [(.int (1 : Int32))])) (fun _ k => XS.iconst X14.here hx rfl (hb hby at_156) k) ?_
                refine own_step (f' := (mkF m 161 #[.val (.int i1), .val (.int i2), .val (.int i3), .val (.int v3_2_s0), .val (.int v15_4_s0), .val (.int v29_6_s0), .val (.int v40_8_s0), .val .null, .val .null, .val (.ref b11), .unset, .unset, .unset, .unset, .unset] [(.int (1 : Int32))])) (fun _ k => XS.goto X14.here hx rfl (pc0 := 157) (pc' := 161) rfl (hb hby at_157) (by decide) (by decide) k) ?_
                exact J148_17 _ (1 : Int32) X14 rfl (by rw [if_neg hc148_15])
            · refine own_step (f' := (mkF m 91 #[.val (.int i1), .val (.int i2), .val (.int i3), .val (.int v3_2_s0), .val (.int v15_4_s0), .val (.int v29_6_s0), .val (.int v40_8_s0), .val .null, .unset, .unset, .unset, .unset, .unset, .unset, .unset] [])) (fun _ k => XS.ifNo X40_8.here hx rfl (hb hby at_88) rfl ((if0 _ _).trans (feq hc88_10).1) k) ?_
              obtain ⟨T1017, h1017, X1017, e1017, E1017, A1017, D1017, -, st1017⟩ := newO X40_8 hx hZ hown (hw _ (List.mem_of_getElem? (i := 0) rfl)) (hw _ (List.mem_of_getElem? (i := 1) rfl)) (hw _ (List.mem_of_getElem? (i := 2) rfl)) e40_8 (g := (mkF m 91 #[.val (.int i1), .val (.int i2), .val (.int i3), .val (.int v3_2_s0), .val (.int v15_4_s0), .val (.int v29_6_s0), .val (.int v40_8_s0), .val .null, .unset, .unset, .unset, .unset, .unset, .unset, .unset] [])) rfl (hb hby at_91) (by decide) (by decide)
              obtain ⟨b1017, g1017⟩ : ∃ z, z = h0.size := ⟨_, rfl⟩
              rw [← g1017] at A1017 D1017 st1017
              have g_b1017 : n0 ≤ b1017 := Nat.le_trans Z0 (Nat.le_of_eq g1017.symm)
              have F_steps_b1017 : Fld Z h1017 b1017 "wayfarer/process/RepeatStep$Condition" "steps" "Ljava/util/List;" .null := D1017 (Or.inr (hw _ (List.mem_of_getElem? (i := 39) rfl))) (ty := (.object "java/util/List")) (by decide)
              have F_ahead_b1017 : Fld Z h1017 b1017 "wayfarer/process/RepeatStep$Condition" "ahead" "Z" (.int (0 : Int32)) := D1017 (Or.inr (hw _ (List.mem_of_getElem? (i := 41) rfl))) (ty := .boolean) (by decide)
              refine own_step (f' := (mkF m 94 #[.val (.int i1), .val (.int i2), .val (.int i3), .val (.int v3_2_s0), .val (.int v15_4_s0), .val (.int v29_6_s0), .val (.int v40_8_s0), .val .null, .unset, .unset, .unset, .unset, .unset, .unset, .unset] [(.ref b1017)])) st1017 ?_
              refine own_step (f' := (mkF m 95 #[.val (.int i1), .val (.int i2), .val (.int i3), .val (.int v3_2_s0), .val (.int v15_4_s0), .val (.int v29_6_s0), .val (.int v40_8_s0), .val .null, .unset, .unset, .unset, .unset, .unset, .unset, .unset] [(.ref b1017), (.ref b1017)])) (fun _ k => XS.dup X1017.here hx rfl (hb hby at_94) rfl rfl k) ?_
              obtain ⟨T1018, h1018, X1018, e1018, E1018, A1018, D1018, -, st1018⟩ := newO X1017 hx hZ hown (hw _ (List.mem_of_getElem? (i := 3) rfl)) (hw _ (List.mem_of_getElem? (i := 4) rfl)) (hw _ (List.mem_of_getElem? (i := 5) rfl)) e1017 (g := (mkF m 95 #[.val (.int i1), .val (.int i2), .val (.int i3), .val (.int v3_2_s0), .val (.int v15_4_s0), .val (.int v29_6_s0), .val (.int v40_8_s0), .val .null, .unset, .unset, .unset, .unset, .unset, .unset, .unset] [(.ref b1017), (.ref b1017)])) rfl (hb hby at_95) (by decide) (by decide)
              obtain ⟨b1018, g1018⟩ : ∃ z, z = h1017.size := ⟨_, rfl⟩
              rw [← g1018] at A1018 D1018 st1018
              have ne_b1017_b1018 : b1017 ≠ b1018 := Nat.ne_of_lt (Nat.lt_of_lt_of_le A1017.lt (Nat.le_of_eq g1018.symm))
              have g_b1018 : n0 ≤ b1018 := Nat.le_trans (Nat.le_trans Z0 E1017.1) (Nat.le_of_eq g1018.symm)
              have F_modCount_b1018 : Fld Z h1018 b1018 "java/util/AbstractList" "modCount" "I" (.int (0 : Int32)) := D1018 (Or.inl (hw _ (List.mem_of_getElem? (i := 25) rfl))) (ty := .int) (by decide)
              have F_elementData_b1018 : Fld Z h1018 b1018 "java/util/ArrayList" "elementData" "[Ljava/lang/Object;" .null := D1018 (Or.inl (hw _ (List.mem_of_getElem? (i := 28) rfl))) (ty := (.array (.object "java/lang/Object"))) (by decide)
              refine own_step (f' := (mkF m 98 #[.val (.int i1), .val (.int i2), .val (.int i3), .val (.int v3_2_s0), .val (.int v15_4_s0), .val (.int v29_6_s0), .val (.int v40_8_s0), .val .null, .unset, .unset, .unset, .unset, .unset, .unset, .unset] [(.ref b1018), (.ref b1017), (.ref b1017)])) st1018 ?_
              refine own_step (f' := (mkF m 99 #[.val (.int i1), .val (.int i2), .val (.int i3), .val (.int v3_2_s0), .val (.int v15_4_s0), .val (.int v29_6_s0), .val (.int v40_8_s0), .val .null, .unset, .unset, .unset, .unset, .unset, .unset, .unset] [(.ref b1018), (.ref b1018), (.ref b1017), (.ref b1017)])) (fun _ k => XS.dup X1018.here hx rfl (hb hby at_98) rfl rfl k) ?_
              have Zq1019 : n0 ≤ h1018.size := (Nat.le_trans (Nat.le_trans Z0 E1017.1) E1018.1)
              obtain ⟨_, _, ⟨T1019, L1019, k1019, n1019⟩, -, X1019, ⟨Lc1019, hQ1019, l1019, y1019, z1019⟩, st1019⟩ := X1018.specialBack hx (y := (⟨"java/util/ArrayList", "<init>", "()V"⟩ : MethodName)) rfl hown (mvT hZ (hw _ (List.mem_of_getElem? (i := 6) rfl))) (mvT hZ (hw _ (List.mem_of_getElem? (i := 7) rfl))) (mvT hZ (hw _ (List.mem_of_getElem? (i := 8) rfl))) (by decide) (backOf (W := 3) (rm1 l Z a0 hw [] b1018 (.int (0 : Int32)) .null w1 h1018 n0 Zq1019 A1018 F_modCount_b1018 g_b1018 ((S_DEFAULTCAPACITY_EMPTY_ELEMENTDATA.ext E1017).ext E1018) F_elementData_b1018) hZ (hw _ (List.mem_of_getElem? (i := 8) rfl)) (hw _ (List.mem_of_getElem? (i := 5) rfl)) (by decide) (by decide)) (g := (mkF m 99 #[.val (.int i1), .val (.int i2), .val (.int i3), .val (.int v3_2_s0), .val (.int v15_4_s0), .val (.int v29_6_s0), .val (.int v40_8_s0), .val .null, .unset, .unset, .unset, .unset, .unset, .unset, .unset] [(.ref b1018), (.ref b1018), (.ref b1017), (.ref b1017)])) rfl (by rw [hml]; rfl) (Steps.refl _) (a := b1018) (argsL := []) (rest := [(.ref b1018), (.ref b1017), (.ref b1017)]) (lenOf pd_0 rfl) rfl (by show 2 * 0 + _ ≤ _; exact Nat.le_of_eq rfl) (hb hby at_99) (fun _ _ => ⟨rfl, e1018, (by decide : 2 + 0 ≤ _), (by decide : 5 + 0 ≤ _)⟩)
              dsimp only [Pt.U, Pt.locs, Pt.cells, Pt.slots] at X1019 l1019 y1019 z1019 st1019 hQ1019
              subst l1019 y1019 z1019
              obtain ⟨rfl, Nq1019, K1019, P1019_0, P1019_1, P1019_2⟩ := hQ1019
              obtain ⟨Lo1019, X1019, N1019⟩ : ∃ K, Stand p l e room_1 s m #[(.int i1), (.int i2), (.int i3)] below meth c T1019 K 2 5 ∧ Fr n0 K := ⟨_, X1019, (Fr.app N0 Nq1019)⟩
              refine own_jump (f' := (mkF m 102 #[.val (.int i1), .val (.int i2), .val (.int i3), .val (.int v3_2_s0), .val (.int v15_4_s0), .val (.int v29_6_s0), .val (.int v40_8_s0), .val .null, .unset, .unset, .unset, .unset, .unset, .unset, .unset] [(.ref b1018), (.ref b1017), (.ref b1017)])) st1019 ?_
              refine own_step (f' := (mkF m 103 #[.val (.int i1), .val (.int i2), .val (.int i3), .val (.int v3_2_s0), .val (.int v15_4_s0), .val (.int v29_6_s0), .val (.int v40_8_s0), .val .null, .unset, .unset, .unset, .unset, .unset, .unset, .unset] [(.int i2), (.ref b1018), (.ref b1017), (.ref b1017)])) (fun _ k => XS.iloadN X1019.here hx rfl (hb hby at_102) rfl k) ?_
              refine own_step (f' := (mkF m 105 #[.val (.int i1), .val (.int i2), .val (.int i3), .val (.int v3_2_s0), .val (.int v15_4_s0), .val (.int v29_6_s0), .val (.int v40_8_s0), .val .null, .unset, .unset, .unset, .unset, .unset, .unset, .unset] [(.int (16 : Int32)), (.int i2), (.ref b1018), (.ref b1017), (.ref b1017)])) (fun _ k => XS.bipush X1019.here hx rfl (hb hby at_103) k) ?_
              refine own_step (f' := (mkF m 106 #[.val (.int i1), .val (.int i2), .val (.int i3), .val (.int v3_2_s0), .val (.int v15_4_s0), .val (.int v29_6_s0), .val (.int v40_8_s0), .val .null, .unset, .unset, .unset, .unset, .unset, .unset, .unset] [(.int (i2 &&& (16 : Int32))), (.ref b1018), (.ref b1017), (.ref b1017)])) (fun _ k => XS.iand X1019.here hx rfl (hb hby at_105) rfl k) ?_
              have J106_1021 : ∀ (T106_1021 : State) (v106_1021_s0 : Int32), Stand p l e room_1 s m #[(.int i1), (.int i2), (.int i3)] below meth c T106_1021 Lo1019 2 5 → T106_1021.heap = T1019.heap → v106_1021_s0 = (if (i2 &&& (16 : Int32)) = (0 : Int32) then (0 : Int32) else (1 : Int32)) → own_Goes p e below s (Q0 Z i1 i2 i3 w1 h0 n0) room_1.cells room_1.slots T106_1021 (mkF m 114 #[.val (.int i1), .val (.int i2), .val (.int i3), .val (.int v3_2_s0), .val (.int v15_4_s0), .val (.int v29_6_s0), .val (.int v40_8_s0), .val .null, .unset, .unset, .unset, .unset, .unset, .unset, .unset] [(.int v106_1021_s0), (.ref b1018), (.ref b1017), (.ref b1017)]) := by
                intro T106_1021 v106_1021_s0 X106_1021 e106_1021 hv106_1021_0
                have Zq1022 : n0 ≤ T1019.heap.size := (Nat.le_trans (Nat.le_trans (Nat.le_trans Z0 E1017.1) E1018.1) K1019.1)
                obtain ⟨_, _, ⟨T1022, L1022, k1022, n1022⟩, -, X1022, ⟨Lc1022, hQ1022, l1022, y1022, z1022⟩, st1022⟩ := X106_1021.specialBack hx (y := (⟨"wayfarer/process/RepeatStep$Condition", "<init>", "(Ljava/util/List;Z)V"⟩ : MethodName)) rfl hown (mvT hZ (hw _ (List.mem_of_getElem? (i := 29) rfl))) (mvT hZ (hw _ (List.mem_of_getElem? (i := 30) rfl))) (mvT hZ (hw _ (List.mem_of_getElem? (i := 31) rfl))) (by decide) (backOf (W := 1) (rm5 l Z a0 hw [] b1017 b1018 v106_1021_s0 .null (.int (0 : Int32)) T1019.heap n0 Zq1022 ((A1017.ext E1018).keep K1019) ((F_steps_b1017.ext E1018).keep K1019 (ninS ne_b1017_b1018 nin0)) ((F_ahead_b1017.ext E1018).keep K1019 (ninS ne_b1017_b1018 nin0)) g_b1017) hZ (hw _ (List.mem_of_getElem? (i := 31) rfl)) (hw _ (List.mem_of_getElem? (i := 2) rfl)) (by decide) (by decide)) (g := (mkF m 114 #[.val (.int i1), .val (.int i2), .val (.int i3), .val (.int v3_2_s0), .val (.int v15_4_s0), .val (.int v29_6_s0), .val (.int v40_8_s0), .val .null, .unset, .unset, .unset, .unset, .unset, .unset, .unset] [(.int v106_1021_s0), (.ref b1018), (.ref b1017), (.ref b1017)])) rfl (by rw [hml]; rfl) (Steps.refl _) (a := b1017) (argsL := [(.ref b1018), (.int v106_1021_s0)]) (rest := [(.ref b1017)]) (lenOf pd_4 rfl) rfl (by show 2 * 0 + _ ≤ _; exact Nat.le_of_eq rfl) (hb hby at_114) (fun _ _ => ⟨rfl, e106_1021, (by decide : 2 + 0 ≤ _), (by decide : 5 + 0 ≤ _)⟩)
                dsimp only [Pt.U, Pt.locs, Pt.cells, Pt.slots] at X1022 l1022 y1022 z1022 st1022 hQ1022
                subst l1022 y1022 z1022
                obtain ⟨rfl, Nq1022, K1022, P1022_0⟩ := hQ1022
                obtain ⟨Lo1022, X1022, N1022⟩ : ∃ K, Stand p l e room_1 s m #[(.int i1), (.int i2), (.int i3)] below meth c T1022 K 2 5 ∧ Fr n0 K := ⟨_, X1022, (Fr.app N1019 Nq1022)⟩
                refine own_jump (f' := (mkF m 117 #[.val (.int i1), .val (.int i2), .val (.int i3), .val (.int v3_2_s0), .val (.int v15_4_s0), .val (.int v29_6_s0), .val (.int v40_8_s0), .val .null, .unset, .unset, .unset, .unset, .unset, .unset, .unset] [(.ref b1017)])) st1022 ?_
                refine own_step (f' := (mkF m 121 #[.val (.int i1), .val (.int i2), .val (.int i3), .val (.int v3_2_s0), .val (.int v15_4_s0), .val (.int v29_6_s0), .val (.int v40_8_s0), .val .null, .unset, .unset, .unset, .unset, .unset, .unset, .unset] [(.ref b1017)])) (fun _ k => XS.goto X1022.here hx rfl (pc0 := 117) (pc' := 121) rfl (hb hby at_117) (by decide) (by decide) k) ?_
                refine own_step (f' := (mkF m 123 #[.val (.int i1), .val (.int i2), .val (.int i3), .val (.int v3_2_s0), .val (.int v15_4_s0), .val (.int v29_6_s0), .val (.int v40_8_s0), .val .null, .val (.ref b1017), .unset, .unset, .unset, .unset, .unset, .unset] [])) (fun _ k => XS.astore X1022.here hx rfl (hb hby at_121) rfl rfl (l' := #[.val (.int i1), .val (.int i2), .val (.int i3), .val (.int v3_2_s0), .val (.int v15_4_s0), .val (.int v29_6_s0), .val (.int v40_8_s0), .val .null, .val (.ref b1017), .unset, .unset, .unset, .unset, .unset, .unset]) rfl k) ?_
                obtain ⟨T1023, h1023, X1023, e1023, E1023, A1023, D1023, -, st1023⟩ := newO X1022 hx hZ hown (hw _ (List.mem_of_getElem? (i := 42) rfl)) (hw _ (List.mem_of_getElem? (i := 43) rfl)) (hw _ (List.mem_of_getElem? (i := 44) rfl)) rfl (g := (mkF m 123 #[.val (.int i1), .val (.int i2), .val (.int i3), .val (.int v3_2_s0), .val (.int v15_4_s0), .val (.int v29_6_s0), .val (.int v40_8_s0), .val .null, .val (.ref b1017), .unset, .unset, .unset, .unset, .unset, .unset] [])) rfl (hb hby at_123) (by decide) (by decide)
                obtain ⟨b1023, g1023⟩ : ∃ z, z = T1022.heap.size := ⟨_, rfl⟩
                rw [← g1023] at A1023 D1023 st1023
                have ne_b1017_b1023 : b1017 ≠ b1023 := Nat.ne_of_lt (Nat.lt_of_lt_of_le P1022_0.lt (Nat.le_of_eq g1023.symm))
                have ne_b1018_b1023 : b1018 ≠ b1023 := Nat.ne_of_lt (Nat.lt_of_lt_of_le (P1019_0.keep K1022).lt (Nat.le_of_eq g1023.symm))
                have g_b1023 : n0 ≤ b1023 := Nat.le_trans (Nat.le_trans (Nat.le_trans (Nat.le_trans (Nat.le_trans Z0 E1017.1) E1018.1) K1019.1) K1022.1) (Nat.le_of_eq g1023.symm)
                have F_body_b1023 : Fld Z h1023 b1023 "wayfarer/process/RepeatStep" "body" "Ljava/util/List;" .null := D1023 (Or.inr (hw _ (List.mem_of_getElem? (i := 50) rfl))) (ty := (.object "java/util/List")) (by decide)
                have F_times_b1023 : Fld Z h1023 b1023 "wayfarer/process/RepeatStep" "times" "I" (.int (0 : Int32)) := D1023 (Or.inr (hw _ (List.mem_of_getElem? (i := 52) rfl))) (ty := .int) (by decide)
                have F_until_b1023 : Fld Z h1023 b1023 "wayfarer/process/RepeatStep" "until" "Lwayfarer/process/RepeatStep$Condition;" .null := D1023 (Or.inr (hw _ (List.mem_of_getElem? (i := 54) rfl))) (ty := (.object "wayfarer/process/RepeatStep$Condition")) (by decide)
                have F_emit_b1023 : Fld Z h1023 b1023 "wayfarer/process/RepeatStep" "emit" "Lwayfarer/process/RepeatStep$Condition;" .null := D1023 (Or.inr (hw _ (List.mem_of_getElem? (i := 56) rfl))) (ty := (.object "wayfarer/process/RepeatStep$Condition")) (by decide)
                refine own_step (f' := (mkF m 126 #[.val (.int i1), .val (.int i2), .val (.int i3), .val (.int v3_2_s0), .val (.int v15_4_s0), .val (.int v29_6_s0), .val (.int v40_8_s0), .val .null, .val (.ref b1017), .unset, .unset, .unset, .unset, .unset, .unset] [(.ref b1023)])) st1023 ?_
                refine own_step (f' := (mkF m 127 #[.val (.int i1), .val (.int i2), .val (.int i3), .val (.int v3_2_s0), .val (.int v15_4_s0), .val (.int v29_6_s0), .val (.int v40_8_s0), .val .null, .val (.ref b1017), .unset, .unset, .unset, .unset, .unset, .unset] [(.ref b1023), (.ref b1023)])) (fun _ k => XS.dup X1023.here hx rfl (hb hby at_126) rfl rfl k) ?_
                obtain ⟨T1024, h1024, X1024, e1024, E1024, A1024, D1024, -, st1024⟩ := newO X1023 hx hZ hown (hw _ (List.mem_of_getElem? (i := 3) rfl)) (hw _ (List.mem_of_getElem? (i := 4) rfl)) (hw _ (List.mem_of_getElem? (i := 5) rfl)) e1023 (g := (mkF m 127 #[.val (.int i1), .val (.int i2), .val (.int i3), .val (.int v3_2_s0), .val (.int v15_4_s0), .val (.int v29_6_s0), .val (.int v40_8_s0), .val .null, .val (.ref b1017), .unset, .unset, .unset, .unset, .unset, .unset] [(.ref b1023), (.ref b1023)])) rfl (hb hby at_127) (by decide) (by decide)
                obtain ⟨b1024, g1024⟩ : ∃ z, z = h1023.size := ⟨_, rfl⟩
                rw [← g1024] at A1024 D1024 st1024
                have ne_b1017_b1024 : b1017 ≠ b1024 := Nat.ne_of_lt (Nat.lt_of_lt_of_le (P1022_0.ext E1023).lt (Nat.le_of_eq g1024.symm))
                have ne_b1018_b1024 : b1018 ≠ b1024 := Nat.ne_of_lt (Nat.lt_of_lt_of_le ((P1019_0.keep K1022).ext E1023).lt (Nat.le_of_eq g1024.symm))
                have ne_b1023_b1024 : b1023 ≠ b1024 := Nat.ne_of_lt (Nat.lt_of_lt_of_le A1023.lt (Nat.le_of_eq g1024.symm))
                have g_b1024 : n0 ≤ b1024 := Nat.le_trans (Nat.le_trans (Nat.le_trans (Nat.le_trans (Nat.le_trans (Nat.le_trans Z0 E1017.1) E1018.1) K1019.1) K1022.1) E1023.1) (Nat.le_of_eq g1024.symm)
                have F_modCount_b1024 : Fld Z h1024 b1024 "java/util/AbstractList" "modCount" "I" (.int (0 : Int32)) := D1024 (Or.inl (hw _ (List.mem_of_getElem? (i := 25) rfl))) (ty := .int) (by decide)
                have F_elementData_b1024 : Fld Z h1024 b1024 "java/util/ArrayList" "elementData" "[Ljava/lang/Object;" .null := D1024 (Or.inl (hw _ (List.mem_of_getElem? (i := 28) rfl))) (ty := (.array (.object "java/lang/Object"))) (by decide)
                refine own_step (f' := (mkF m 130 #[.val (.int i1), .val (.int i2), .val (.int i3), .val (.int v3_2_s0), .val (.int v15_4_s0), .val (.int v29_6_s0), .val (.int v40_8_s0), .val .null, .val (.ref b1017), .unset, .unset, .unset, .unset, .unset, .unset] [(.ref b1024), (.ref b1023), (.ref b1023)])) st1024 ?_
                refine own_step (f' := (mkF m 131 #[.val (.int i1), .val (.int i2), .val (.int i3), .val (.int v3_2_s0), .val (.int v15_4_s0), .val (.int v29_6_s0), .val (.int v40_8_s0), .val .null, .val (.ref b1017), .unset, .unset, .unset, .unset, .unset, .unset] [(.ref b1024), (.ref b1024), (.ref b1023), (.ref b1023)])) (fun _ k => XS.dup X1024.here hx rfl (hb hby at_130) rfl rfl k) ?_
                have Zq1025 : n0 ≤ h1024.size := (Nat.le_trans (Nat.le_trans (Nat.le_trans (Nat.le_trans (Nat.le_trans (Nat.le_trans Z0 E1017.1) E1018.1) K1019.1) K1022.1) E1023.1) E1024.1)
                obtain ⟨_, _, ⟨T1025, L1025, k1025, n1025⟩, -, X1025, ⟨Lc1025, hQ1025, l1025, y1025, z1025⟩, st1025⟩ := X1024.specialBack hx (y := (⟨"java/util/ArrayList", "<init>", "()V"⟩ : MethodName)) rfl hown (mvT hZ (hw _ (List.mem_of_getElem? (i := 6) rfl))) (mvT hZ (hw _ (List.mem_of_getElem? (i := 7) rfl))) (mvT hZ (hw _ (List.mem_of_getElem? (i := 8) rfl))) (by decide) (backOf (W := 3) (rm1 l Z a0 hw [] b1024 (.int (0 : Int32)) .null w1 h1024 n0 Zq1025 A1024 F_modCount_b1024 g_b1024 (((own_staKeep (own_staKeep ((S_DEFAULTCAPACITY_EMPTY_ELEMENTDATA.ext E1017).ext E1018) K1019 (allS (own_exaNS A1018) all0)) K1022 (allS (own_exaNS ((A1017.ext E1018).keep K1019)) all0)).ext E1023).ext E1024) F_elementData_b1024) hZ (hw _ (List.mem_of_getElem? (i := 8) rfl)) (hw _ (List.mem_of_getElem? (i := 5) rfl)) (by decide) (by decide)) (g := (mkF m 131 #[.val (.int i1), .val (.int i2), .val (.int i3), .val (.int v3_2_s0), .val (.int v15_4_s0), .val (.int v29_6_s0), .val (.int v40_8_s0), .val .null, .val (.ref b1017), .unset, .unset, .unset, .unset, .unset, .unset] [(.ref b1024), (.ref b1024), (.ref b1023), (.ref b1023)])) rfl (by rw [hml]; rfl) (Steps.refl _) (a := b1024) (argsL := []) (rest := [(.ref b1024), (.ref b1023), (.ref b1023)]) (lenOf pd_0 rfl) rfl (by show 2 * 0 + _ ≤ _; exact Nat.le_of_eq rfl) (hb hby at_131) (fun _ _ => ⟨rfl, e1024, (by decide : 4 + 0 ≤ _), (by decide : 12 + 0 ≤ _)⟩)
                dsimp only [Pt.U, Pt.locs, Pt.cells, Pt.slots] at X1025 l1025 y1025 z1025 st1025 hQ1025
                subst l1025 y1025 z1025
                obtain ⟨rfl, Nq1025, K1025, P1025_0, P1025_1, P1025_2⟩ := hQ1025
                obtain ⟨Lo1025, X1025, N1025⟩ : ∃ K, Stand p l e room_1 s m #[(.int i1), (.int i2), (.int i3)] below meth c T1025 K 4 12 ∧ Fr n0 K := ⟨_, X1025, (Fr.app N1022 Nq1025)⟩
                refine own_jump (f' := (mkF m 134 #[.val (.int i1), .val (.int i2), .val (.int i3), .val (.int v3_2_s0), .val (.int v15_4_s0), .val (.int v29_6_s0), .val (.int v40_8_s0), .val .null, .val (.ref b1017), .unset, .unset, .unset, .unset, .unset, .unset] [(.ref b1024), (.ref b1023), (.ref b1023)])) st1025 ?_
                refine own_step (f' := (mkF m 136 #[.val (.int i1), .val (.int i2), .val (.int i3), .val (.int v3_2_s0), .val (.int v15_4_s0), .val (.int v29_6_s0), .val (.int v40_8_s0), .val .null, .val (.ref b1017), .unset, .unset, .unset, .unset, .unset, .unset] [(.int v40_8_s0), (.ref b1024), (.ref b1023), (.ref b1023)])) (fun _ k => XS.iload X1025.here hx rfl (hb hby at_134) rfl k) ?_
                refine own_step (f' := (mkF m 138 #[.val (.int i1), .val (.int i2), .val (.int i3), .val (.int v3_2_s0), .val (.int v15_4_s0), .val (.int v29_6_s0), .val (.int v40_8_s0), .val .null, .val (.ref b1017), .unset, .unset, .unset, .unset, .unset, .unset] [.null, (.int v40_8_s0), (.ref b1024), (.ref b1023), (.ref b1023)])) (fun _ k => XS.aload X1025.here hx rfl (hb hby at_136) rfl rfl k) ?_
                refine own_step (f' := (mkF m 140 #[.val (.int i1), .val (.int i2), .val (.int i3), .val (.int v3_2_s0), .val (.int v15_4_s0), .val (.int v29_6_s0), .val (.int v40_8_s0), .val .null, .val (.ref b1017), .unset, .unset, .unset, .unset, .unset, .unset] [(.ref b1017), .null, (.int v40_8_s0), (.ref b1024), (.ref b1023), (.ref b1023)])) (fun _ k => XS.aload X1025.here hx rfl (hb hby at_138) rfl rfl k) ?_
                have Zq1026 : n0 ≤ T1025.heap.size := (Nat.le_trans (Nat.le_trans (Nat.le_trans (Nat.le_trans (Nat.le_trans (Nat.le_trans (Nat.le_trans Z0 E1017.1) E1018.1) K1019.1) K1022.1) E1023.1) E1024.1) K1025.1)
                obtain ⟨_, _, ⟨T1026, L1026, k1026, n1026⟩, -, X1026, ⟨Lc1026, hQ1026, l1026, y1026, z1026⟩, st1026⟩ := X1025.specialBack hx (y := (⟨"wayfarer/process/RepeatStep", "<init>", "(Ljava/util/List;ILwayfarer/process/RepeatStep$Condition;Lwayfarer/process/RepeatStep$Condition;)V"⟩ : MethodName)) rfl hown (mvT hZ (hw _ (List.mem_of_getElem? (i := 45) rfl))) (mvT hZ (hw _ (List.mem_of_getElem? (i := 46) rfl))) (mvT hZ (hw _ (List.mem_of_getElem? (i := 47) rfl))) (by decide) (backOf (W := 1) (rm7nr l Z a0 hw [] b1023 b1024 v40_8_s0 b1017 .null (.int (0 : Int32)) .null .null T1025.heap n0 Zq1026 ((A1023.ext E1024).keep K1025) ((F_body_b1023.ext E1024).keep K1025 (ninS ne_b1023_b1024 nin0)) ((F_times_b1023.ext E1024).keep K1025 (ninS ne_b1023_b1024 nin0)) ((F_until_b1023.ext E1024).keep K1025 (ninS ne_b1023_b1024 nin0)) ((F_emit_b1023.ext E1024).keep K1025 (ninS ne_b1023_b1024 nin0)) g_b1023) hZ (hw _ (List.mem_of_getElem? (i := 47) rfl)) (hw _ (List.mem_of_getElem? (i := 44) rfl)) (by decide) (by decide)) (g := (mkF m 140 #[.val (.int i1), .val (.int i2), .val (.int i3), .val (.int v3_2_s0), .val (.int v15_4_s0), .val (.int v29_6_s0), .val (.int v40_8_s0), .val .null, .val (.ref b1017), .unset, .unset, .unset, .unset, .unset, .unset] [(.ref b1017), .null, (.int v40_8_s0), (.ref b1024), (.ref b1023), (.ref b1023)])) rfl (by rw [hml]; rfl) (Steps.refl _) (a := b1023) (argsL := [(.ref b1024), (.int v40_8_s0), .null, (.ref b1017)]) (rest := [(.ref b1023)]) (lenOf pd_2 rfl) rfl (by show 2 * 0 + _ ≤ _; exact Nat.le_of_eq rfl) (hb hby at_140) (fun _ _ => ⟨rfl, rfl, (by decide : 4 + 0 ≤ _), (by decide : 12 + 0 ≤ _)⟩)
                dsimp only [Pt.U, Pt.locs, Pt.cells, Pt.slots] at X1026 l1026 y1026 z1026 st1026 hQ1026
                subst l1026 y1026 z1026
                obtain ⟨rfl, Nq1026, K1026, P1026_0, P1026_1, P1026_2, P1026_3, P1026_4⟩ := hQ1026
                obtain ⟨Lo1026, X1026, N1026⟩ : ∃ K, Stand p l e room_1 s m #[(.int i1), (.int i2), (.int i3)] below meth c T1026 K 4 12 ∧ Fr n0 K := ⟨_, X1026, (Fr.app N1025 Nq1026)⟩
                refine own_jump (f' := (mkF m 143 #[.val (.int i1), .val (.int i2), .val (.int i3), .val (.int v3_2_s0), .val (.int v15_4_s0), .val (.int v29_6_s0), .val (.int v40_8_s0), .val .null, .val (.ref b1017), .unset, .unset, .unset, .unset, .unset, .unset] [(.ref b1023)])) st1026 ?_
                refine own_step (f' := (mkF m 145 #[.val (.int i1), .val (.int i2), .val (.int i3), .val (.int v3_2_s0), .val (.int v15_4_s0), .val (.int v29_6_s0), .val (.int v40_8_s0), .val .null, .val (.ref b1017), .val (.ref b1023), .unset, .unset, .unset, .unset, .unset] [])) (fun _ k => XS.astore X1026.here hx rfl (hb hby at_143) rfl rfl (l' := #[.val (.int i1), .val (.int i2), .val (.int i3), .val (.int v3_2_s0), .val (.int v15_4_s0), .val (.int v29_6_s0), .val (.int v40_8_s0), .val .null, .val (.ref b1017), .val (.ref b1023), .unset, .unset, .unset, .unset, .unset]) rfl k) ?_
                refine own_step (f' := (mkF m 147 #[.val (.int i1), .val (.int i2), .val (.int i3), .val (.int v3_2_s0), .val (.int v15_4_s0), .val (.int v29_6_s0), .val (.int v40_8_s0), .val .null, .val (.ref b1017), .val (.ref b1023), .unset, .unset, .unset, .unset, .unset] [(.int v40_8_s0)])) (fun _ k => XS.iload X1026.here hx rfl (hb hby at_145) rfl k) ?_
                refine own_step (f' := (mkF m 148 #[.val (.int i1), .val (.int i2), .val (.int i3), .val (.int v3_2_s0), .val (.int v15_4_s0), .val (.int v29_6_s0), .val (.int v40_8_s0), .val .null, .val (.ref b1017), .val (.ref b1023), .unset, .unset, .unset, .unset, .unset] [(.int (-1 : Int32)), (.int v40_8_s0)])) (fun _ k => XS.iconst X1026.here hx rfl (hb hby at_147) k) ?_
                have J148_1029 : ∀ (T148_1029 : State) (v148_1029_s0 : Int32), Stand p l e room_1 s m #[(.int i1), (.int i2), (.int i3)] below meth c T148_1029 Lo1026 4 12 → T148_1029.heap = T1026.heap → v148_1029_s0 = (if v40_8_s0 = (-1 : Int32) then (if v15_4_s0 = (0 : Int32) then (0 : Int32) else (1 : Int32)) else (1 : Int32)) → own_Goes p e below s (Q0 Z i1 i2 i3 w1 h0 n0) room_1.cells room_1.slots T148_1029 (mkF m 161 #[.val (.int i1), .val (.int i2), .val (.int i3), .val (.int v3_2_s0), .val (.int v15_4_s0), .val (.int v29_6_s0), .val (.int v40_8_s0), .val .null, .val (.ref b1017), .val (.ref b1023), .unset, .unset, .unset, .unset, .unset] [(.int v148_1029_s0)]) := by
                  intro T148_1029 v148_1029_s0 X148_1029 e148_1029 hv148_1029_0
                  refine own_step (f' := (mkF m 163 #[.val (.int i1), .val (.int i2), .val (.int i3), .val (.int v3_2_s0), .val (.int v15_4_s0), .val (.int v29_6_s0), .val (.int v40_8_s0), .val .null, .val (.ref b1017), .val (.ref b1023), .val (.int v148_1029_s0), .unset, .unset, .unset, .unset] [])) (fun _ k => XS.istore X148_1029.here hx rfl (hb hby at_161) rfl (l' := #[.val (.int i1), .val (.int i2), .val (.int i3), .val (.int v3_2_s0), .val (.int v15_4_s0), .val (.int v29_6_s0), .val (.int v40_8_s0), .val .null, .val (.ref b1017), .val (.ref b1023), .val (.int v148_1029_s0), .unset, .unset, .unset, .unset]) rfl k) ?_
                  refine own_step (f' := (mkF m 165 #[.val (.int i1), .val (.int i2), .val (.int i3), .val (.int v3_2_s0), .val (.int v15_4_s0), .val (.int v29_6_s0), .val (.int v40_8_s0), .val .null, .val (.ref b1017), .val (.ref b1023), .val (.int v148_1029_s0), .unset, .unset, .unset, .unset] [(.ref b1023)])) (fun _ k => XS.aload X148_1029.here hx rfl (hb hby at_163) rfl rfl k) ?_
                  have Zq1030 : n0 ≤ T1026.heap.size := (Nat.le_trans (Nat.le_trans (Nat.le_trans (Nat.le_trans (Nat.le_trans (Nat.le_trans (Nat.le_trans (Nat.le_trans Z0 E1017.1) E1018.1) K1019.1) K1022.1) E1023.1) E1024.1) K1025.1) K1026.1)
                  obtain ⟨cq1030, kq1030, q1030a, q1030b, q1030c⟩ := isOf hZ e148_1029 P1026_0
                  obtain ⟨_, _, ⟨T1030, L1030, k1030, n1030⟩, -, X1030, ⟨Lc1030, hQ1030, l1030, y1030, z1030⟩, st1030⟩ := X148_1029.virtualBack hx (y := (⟨"wayfarer/process/RepeatStep", "stops", "()Z"⟩ : MethodName)) (z := (⟨"wayfarer/process/RepeatStep", "stops", "()Z"⟩ : MethodName)) hown (mvT hZ (hw _ (List.mem_of_getElem? (i := 57) rfl))) (mvT hZ (hw _ (List.mem_of_getElem? (i := 58) rfl))) (notFace_of_selects (args := #[]) (mvT hZ (hw _ (List.mem_of_getElem? (i := 60) rfl)))) (mvT hZ (hw _ (List.mem_of_getElem? (i := 60) rfl))) (mvT hZ (hw _ (List.mem_of_getElem? (i := 59) rfl))) (by decide) (backOf (W := 0) (rm8n l Z a0 hw [] b1023 v40_8_s0 T1026.heap n0 Zq1030 P1026_2 P1026_3) hZ (hw _ (List.mem_of_getElem? (i := 61) rfl)) (hw _ (List.mem_of_getElem? (i := 44) rfl)) (by decide) (by decide)) q1030a q1030c (g := (mkF m 165 #[.val (.int i1), .val (.int i2), .val (.int i3), .val (.int v3_2_s0), .val (.int v15_4_s0), .val (.int v29_6_s0), .val (.int v40_8_s0), .val .null, .val (.ref b1017), .val (.ref b1023), .val (.int v148_1029_s0), .unset, .unset, .unset, .unset] [(.ref b1023)])) rfl (by rw [hml]; rfl) (Steps.refl _) (argsL := []) (rest := []) (lenOf pd_1 rfl) rfl (by show 2 * 0 + _ ≤ _; exact Nat.le_of_eq rfl) (hb hby at_165) (fun _ _ => ⟨rfl, e148_1029, (by decide : 4 + 0 ≤ _), (by decide : 12 + 0 ≤ _)⟩)
                  dsimp only [Pt.U, Pt.locs, Pt.cells, Pt.slots] at X1030 l1030 y1030 z1030 st1030 hQ1030
                  subst l1030 y1030 z1030
                  obtain ⟨rfl, rfl, e1030⟩ := hQ1030
                  try rw [List.append_nil] at X1030
                  refine own_jump (f' := (mkF m 168 #[.val (.int i1), .val (.int i2), .val (.int i3), .val (.int v3_2_s0), .val (.int v15_4_s0), .val (.int v29_6_s0), .val (.int v40_8_s0), .val .null, .val (.ref b1017), .val (.ref b1023), .val (.int v148_1029_s0), .unset, .unset, .unset, .unset] [(.int (own_st0 v40_8_s0))])) st1030 ?_
                  refine own_step (f' := (mkF m 170 #[.val (.int i1), .val (.int i2), .val (.int i3), .val (.int v3_2_s0), .val (.int v15_4_s0), .val (.int v29_6_s0), .val (.int v40_8_s0), .val .null, .val (.ref b1017), .val (.ref b1023), .val (.int v148_1029_s0), .val (.int (own_st0 v40_8_s0)), .unset, .unset, .unset] [])) (fun _ k => XS.istore X1030.here hx rfl (hb hby at_168) rfl (l' := #[.val (.int i1), .val (.int i2), .val (.int i3), .val (.int v3_2_s0), .val (.int v15_4_s0), .val (.int v29_6_s0), .val (.int v40_8_s0), .val .null, .val (.ref b1017), .val (.ref b1023), .val (.int v148_1029_s0), .val (.int (own_st0 v40_8_s0)), .unset, .unset, .unset]) rfl k) ?_
                  refine own_step (f' := (mkF m 172 #[.val (.int i1), .val (.int i2), .val (.int i3), .val (.int v3_2_s0), .val (.int v15_4_s0), .val (.int v29_6_s0), .val (.int v40_8_s0), .val .null, .val (.ref b1017), .val (.ref b1023), .val (.int v148_1029_s0), .val (.int (own_st0 v40_8_s0)), .unset, .unset, .unset] [(.int (own_st0 v40_8_s0))])) (fun _ k => XS.iload X1030.here hx rfl (hb hby at_170) rfl k) ?_
                  refine own_step (f' := (mkF m 174 #[.val (.int i1), .val (.int i2), .val (.int i3), .val (.int v3_2_s0), .val (.int v15_4_s0), .val (.int v29_6_s0), .val (.int v40_8_s0), .val .null, .val (.ref b1017), .val (.ref b1023), .val (.int v148_1029_s0), .val (.int (own_st0 v40_8_s0)), .unset, .unset, .unset] [(.int v148_1029_s0), (.int (own_st0 v40_8_s0))])) (fun _ k => XS.iload X1030.here hx rfl (hb hby at_172) rfl k) ?_
                  have hf174_1031 : (own_st0 v40_8_s0) = v148_1029_s0 := own_e0 _ _ _ hc52_9 hv148_1029_0
                  refine own_step (f' := (mkF m 179 #[.val (.int i1), .val (.int i2), .val (.int i3), .val (.int v3_2_s0), .val (.int v15_4_s0), .val (.int v29_6_s0), .val (.int v40_8_s0), .val .null, .val (.ref b1017), .val (.ref b1023), .val (.int v148_1029_s0), .val (.int (own_st0 v40_8_s0)), .unset, .unset, .unset] [])) (fun _ k => XS.icmpYes X1030.here hx rfl (pc0 := 174) (pc' := 179) rfl (hb hby at_174) rfl (teq hf174_1031).1 (by decide) (by decide) k) ?_
                  refine own_step (f' := (mkF m 181 #[.val (.int i1), .val (.int i2), .val (.int i3), .val (.int v3_2_s0), .val (.int v15_4_s0), .val (.int v29_6_s0), .val (.int v40_8_s0), .val .null, .val (.ref b1017), .val (.ref b1023), .val (.int v148_1029_s0), .val (.int (own_st0 v40_8_s0)), .unset, .unset, .unset] [(.int (own_st0 v40_8_s0))])) (fun _ k => XS.iload X1030.here hx rfl (hb hby at_179) rfl k) ?_
                  by_cases hc181_1032 : (own_st0 v40_8_s0) = (0 : Int32)
                  · refine own_step (f' := (mkF m 184 #[.val (.int i1), .val (.int i2), .val (.int i3), .val (.int v3_2_s0), .val (.int v15_4_s0), .val (.int v29_6_s0), .val (.int v40_8_s0), .val .null, .val (.ref b1017), .val (.ref b1023), .val (.int v148_1029_s0), .val (.int (own_st0 v40_8_s0)), .unset, .unset, .unset] [])) (fun _ k => XS.ifNo X1030.here hx rfl (hb hby at_181) rfl ((if0 _ _).trans (teq hc181_1032).2) k) ?_
                    refine own_step (f' := (mkF m 186 #[.val (.int i1), .val (.int i2), .val (.int i3), .val (.int v3_2_s0), .val (.int v15_4_s0), .val (.int v29_6_s0), .val (.int v40_8_s0), .val .null, .val (.ref b1017), .val (.ref b1023), .val (.int v148_1029_s0), .val (.int (own_st0 v40_8_s0)), .unset, .unset, .unset] [(.ref b1023)])) (fun _ k => XS.aload X1030.here hx rfl (hb hby at_184) rfl rfl k) ?_
                    refine own_step (f' := (mkF m 187 #[.val (.int i1), .val (.int i2), .val (.int i3), .val (.int v3_2_s0), .val (.int v15_4_s0), .val (.int v29_6_s0), .val (.int v40_8_s0), .val .null, .val (.ref b1017), .val (.ref b1023), .val (.int v148_1029_s0), .val (.int (own_st0 v40_8_s0)), .unset, .unset, .unset] [(.int i3), (.ref b1023)])) (fun _ k => XS.iloadN X1030.here hx rfl (hb hby at_186) rfl k) ?_
                    refine own_step (f' := (mkF m 189 #[.val (.int i1), .val (.int i2), .val (.int i3), .val (.int v3_2_s0), .val (.int v15_4_s0), .val (.int v29_6_s0), .val (.int v40_8_s0), .val .null, .val (.ref b1017), .val (.ref b1023), .val (.int v148_1029_s0), .val (.int (own_st0 v40_8_s0)), .unset, .unset, .unset] [(.int (2147483647 : Int32)), (.int i3), (.ref b1023)])) (fun _ k => X1030.ldcInt hx hown (mvT hZ (hw _ (List.mem_of_getElem? (i := 62) rfl))) (g := (mkF m 187 #[.val (.int i1), .val (.int i2), .val (.int i3), .val (.int v3_2_s0), .val (.int v15_4_s0), .val (.int v29_6_s0), .val (.int v40_8_s0), .val .null, .val (.ref b1017), .val (.ref b1023), .val (.int v148_1029_s0), .val (.int (own_st0 v40_8_s0)), .unset, .unset, .unset] [(.int i3), (.ref b1023)])) rfl (hb hby at_187) _ k) ?_
                    refine own_step (f' := (mkF m 190 #[.val (.int i1), .val (.int i2), .val (.int i3), .val (.int v3_2_s0), .val (.int v15_4_s0), .val (.int v29_6_s0), .val (.int v40_8_s0), .val .null, .val (.ref b1017), .val (.ref b1023), .val (.int v148_1029_s0), .val (.int (own_st0 v40_8_s0)), .unset, .unset, .unset] [(.int (i3 &&& (2147483647 : Int32))), (.ref b1023)])) (fun _ k => XS.iand X1030.here hx rfl (hb hby at_189) rfl k) ?_
                    have hp1033_hp : own_st0 v40_8_s0 = (0 : Int32) := hc181_1032
                    have Zq1033 : n0 ≤ T1026.heap.size := (Nat.le_trans (Nat.le_trans (Nat.le_trans (Nat.le_trans (Nat.le_trans (Nat.le_trans (Nat.le_trans (Nat.le_trans Z0 E1017.1) E1018.1) K1019.1) K1022.1) E1023.1) E1024.1) K1025.1) K1026.1)
                    obtain ⟨cq1033, kq1033, q1033a, q1033b, q1033c⟩ := isOf hZ e1030 P1026_0
                    obtain ⟨_, _, ⟨T1033, L1033, k1033, n1033⟩, -, X1033, ⟨Lc1033, hQ1033, l1033, y1033, z1033⟩, st1033⟩ := X1030.virtualBack hx (y := (⟨"wayfarer/process/RepeatStep", "withTimes", "(I)Lwayfarer/process/RepeatStep;"⟩ : MethodName)) (z := (⟨"wayfarer/process/RepeatStep", "withTimes", "(I)Lwayfarer/process/RepeatStep;"⟩ : MethodName)) hown (mvT hZ (hw _ (List.mem_of_getElem? (i := 63) rfl))) (mvT hZ (hw _ (List.mem_of_getElem? (i := 64) rfl))) (notFace_of_selects (args := #[]) (mvT hZ (hw _ (List.mem_of_getElem? (i := 66) rfl)))) (mvT hZ (hw _ (List.mem_of_getElem? (i := 66) rfl))) (mvT hZ (hw _ (List.mem_of_getElem? (i := 65) rfl))) (by decide) (backOf (W := 0) (rm9r l Z a0 hw [] b1023 (i3 &&& (2147483647 : Int32)) b1024 v40_8_s0 b1017 T1026.heap n0 Zq1033 P1026_0 P1026_1 P1026_2 P1026_3 P1026_4 hp1033_hp) hZ (hw _ (List.mem_of_getElem? (i := 67) rfl)) (hw _ (List.mem_of_getElem? (i := 44) rfl)) (by decide) (by decide)) q1033a q1033c (g := (mkF m 190 #[.val (.int i1), .val (.int i2), .val (.int i3), .val (.int v3_2_s0), .val (.int v15_4_s0), .val (.int v29_6_s0), .val (.int v40_8_s0), .val .null, .val (.ref b1017), .val (.ref b1023), .val (.int v148_1029_s0), .val (.int (own_st0 v40_8_s0)), .unset, .unset, .unset] [(.int (i3 &&& (2147483647 : Int32))), (.ref b1023)])) rfl (by rw [hml]; rfl) (Steps.refl _) (argsL := [(.int (i3 &&& (2147483647 : Int32)))]) (rest := []) (lenOf pd_3 rfl) rfl (by show 2 * 0 + _ ≤ _; exact Nat.le_of_eq rfl) (hb hby at_190) (fun _ _ => ⟨rfl, e1030, (by decide : 4 + 1 ≤ _), (by decide : 12 + 4 ≤ _)⟩)
                    dsimp only [Pt.U, Pt.locs, Pt.cells, Pt.slots] at X1033 l1033 y1033 z1033 st1033 hQ1033
                    subst l1033 y1033 z1033
                    obtain ⟨b1033, rfl, g_b1033, sq_b1033, Nq1033, K1033, P1033_0, P1033_1, P1033_2⟩ := hQ1033
                    obtain ⟨Lo1033, X1033, N1033⟩ : ∃ K, Stand p l e room_1 s m #[(.int i1), (.int i2), (.int i3)] below meth c T1033 K 5 16 ∧ Fr n0 K := ⟨_, X1033, (Fr.app N1026 Nq1033)⟩
                    have ne_b1017_b1033 : b1017 ≠ b1033 := Nat.ne_of_lt (Nat.lt_of_lt_of_le ((((P1022_0.ext E1023).ext E1024).keep K1025).keep K1026).lt sq_b1033)
                    have ne_b1018_b1033 : b1018 ≠ b1033 := Nat.ne_of_lt (Nat.lt_of_lt_of_le (((((P1019_0.keep K1022).ext E1023).ext E1024).keep K1025).keep K1026).lt sq_b1033)
                    have ne_b1023_b1033 : b1023 ≠ b1033 := Nat.ne_of_lt (Nat.lt_of_lt_of_le P1026_0.lt sq_b1033)
                    have ne_b1024_b1033 : b1024 ≠ b1033 := Nat.ne_of_lt (Nat.lt_of_lt_of_le (P1025_0.keep K1026).lt sq_b1033)
                    refine own_jump (f' := (mkF m 193 #[.val (.int i1), .val (.int i2), .val (.int i3), .val (.int v3_2_s0), .val (.int v15_4_s0), .val (.int v29_6_s0), .val (.int v40_8_s0), .val .null, .val (.ref b1017), .val (.ref b1023), .val (.int v148_1029_s0), .val (.int (own_st0 v40_8_s0)), .unset, .unset, .unset] [(.ref b1033)])) st1033 ?_
                    have Zq1034 : n0 ≤ T1033.heap.size := (Nat.le_trans (Nat.le_trans (Nat.le_trans (Nat.le_trans (Nat.le_trans (Nat.le_trans (Nat.le_trans (Nat.le_trans (Nat.le_trans Z0 E1017.1) E1018.1) K1019.1) K1022.1) E1023.1) E1024.1) K1025.1) K1026.1) K1033.1)
                    obtain ⟨cq1034, kq1034, q1034a, q1034b, q1034c⟩ := isOf hZ rfl P1033_0
                    obtain ⟨_, _, ⟨T1034, L1034, k1034, n1034⟩, -, X1034, ⟨Lc1034, hQ1034, l1034, y1034, z1034⟩, st1034⟩ := X1033.virtualBack hx (y := (⟨"wayfarer/process/RepeatStep", "stops", "()Z"⟩ : MethodName)) (z := (⟨"wayfarer/process/RepeatStep", "stops", "()Z"⟩ : MethodName)) hown (mvT hZ (hw _ (List.mem_of_getElem? (i := 57) rfl))) (mvT hZ (hw _ (List.mem_of_getElem? (i := 58) rfl))) (notFace_of_selects (args := #[]) (mvT hZ (hw _ (List.mem_of_getElem? (i := 60) rfl)))) (mvT hZ (hw _ (List.mem_of_getElem? (i := 60) rfl))) (mvT hZ (hw _ (List.mem_of_getElem? (i := 59) rfl))) (by decide) (backOf (W := 0) (rm8n l Z a0 hw [] b1033 (i3 &&& (2147483647 : Int32)) T1033.heap n0 Zq1034 P1033_1 P1033_2) hZ (hw _ (List.mem_of_getElem? (i := 61) rfl)) (hw _ (List.mem_of_getElem? (i := 44) rfl)) (by decide) (by decide)) q1034a q1034c (g := (mkF m 193 #[.val (.int i1), .val (.int i2), .val (.int i3), .val (.int v3_2_s0), .val (.int v15_4_s0), .val (.int v29_6_s0), .val (.int v40_8_s0), .val .null, .val (.ref b1017), .val (.ref b1023), .val (.int v148_1029_s0), .val (.int (own_st0 v40_8_s0)), .unset, .unset, .unset] [(.ref b1033)])) rfl (by rw [hml]; rfl) (Steps.refl _) (argsL := []) (rest := []) (lenOf pd_1 rfl) rfl (by show 2 * 0 + _ ≤ _; exact Nat.le_of_eq rfl) (hb hby at_193) (fun _ _ => ⟨rfl, rfl, (by decide : 5 + 0 ≤ _), (by decide : 16 + 0 ≤ _)⟩)
                    dsimp only [Pt.U, Pt.locs, Pt.cells, Pt.slots] at X1034 l1034 y1034 z1034 st1034 hQ1034
                    subst l1034 y1034 z1034
                    obtain ⟨rfl, rfl, e1034⟩ := hQ1034
                    try rw [List.append_nil] at X1034
                    refine own_jump (f' := (mkF m 196 #[.val (.int i1), .val (.int i2), .val (.int i3), .val (.int v3_2_s0), .val (.int v15_4_s0), .val (.int v29_6_s0), .val (.int v40_8_s0), .val .null, .val (.ref b1017), .val (.ref b1023), .val (.int v148_1029_s0), .val (.int (own_st0 v40_8_s0)), .unset, .unset, .unset] [(.int (own_st0 (i3 &&& (2147483647 : Int32))))])) st1034 ?_
                    refine own_step (f' := (mkF m 198 #[.val (.int i1), .val (.int i2), .val (.int i3), .val (.int v3_2_s0), .val (.int v15_4_s0), .val (.int v29_6_s0), .val (.int v40_8_s0), .val .null, .val (.ref b1017), .val (.ref b1023), .val (.int v148_1029_s0), .val (.int (own_st0 v40_8_s0)), .val (.int (own_st0 (i3 &&& (2147483647 : Int32)))), .unset, .unset] [])) (fun _ k => XS.istore X1034.here hx rfl (hb hby at_196) rfl (l' := #[.val (.int i1), .val (.int i2), .val (.int i3), .val (.int v3_2_s0), .val (.int v15_4_s0), .val (.int v29_6_s0), .val (.int v40_8_s0), .val .null, .val (.ref b1017), .val (.ref b1023), .val (.int v148_1029_s0), .val (.int (own_st0 v40_8_s0)), .val (.int (own_st0 (i3 &&& (2147483647 : Int32)))), .unset, .unset]) rfl k) ?_
                    obtain ⟨T1035, h1035, X1035, e1035, E1035, A1035, D1035, -, st1035⟩ := newO X1034 hx hZ hown (hw _ (List.mem_of_getElem? (i := 0) rfl)) (hw _ (List.mem_of_getElem? (i := 1) rfl)) (hw _ (List.mem_of_getElem? (i := 2) rfl)) e1034 (g := (mkF m 198 #[.val (.int i1), .val (.int i2), .val (.int i3), .val (.int v3_2_s0), .val (.int v15_4_s0), .val (.int v29_6_s0), .val (.int v40_8_s0), .val .null, .val (.ref b1017), .val (.ref b1023), .val (.int v148_1029_s0), .val (.int (own_st0 v40_8_s0)), .val (.int (own_st0 (i3 &&& (2147483647 : Int32)))), .unset, .unset] [])) rfl (hb hby at_198) (by decide) (by decide)
                    obtain ⟨b1035, g1035⟩ : ∃ z, z = T1033.heap.size := ⟨_, rfl⟩
                    rw [← g1035] at A1035 D1035 st1035
                    have ne_b1017_b1035 : b1017 ≠ b1035 := Nat.ne_of_lt (Nat.lt_of_lt_of_le (((((P1022_0.ext E1023).ext E1024).keep K1025).keep K1026).keep K1033).lt (Nat.le_of_eq g1035.symm))
                    have ne_b1018_b1035 : b1018 ≠ b1035 := Nat.ne_of_lt (Nat.lt_of_lt_of_le ((((((P1019_0.keep K1022).ext E1023).ext E1024).keep K1025).keep K1026).keep K1033).lt (Nat.le_of_eq g1035.symm))
                    have ne_b1023_b1035 : b1023 ≠ b1035 := Nat.ne_of_lt (Nat.lt_of_lt_of_le (P1026_0.keep K1033).lt (Nat.le_of_eq g1035.symm))
                    have ne_b1024_b1035 : b1024 ≠ b1035 := Nat.ne_of_lt (Nat.lt_of_lt_of_le ((P1025_0.keep K1026).keep K1033).lt (Nat.le_of_eq g1035.symm))
                    have ne_b1033_b1035 : b1033 ≠ b1035 := Nat.ne_of_lt (Nat.lt_of_lt_of_le P1033_0.lt (Nat.le_of_eq g1035.symm))
                    have g_b1035 : n0 ≤ b1035 := Nat.le_trans (Nat.le_trans (Nat.le_trans (Nat.le_trans (Nat.le_trans (Nat.le_trans (Nat.le_trans (Nat.le_trans (Nat.le_trans (Nat.le_trans Z0 E1017.1) E1018.1) K1019.1) K1022.1) E1023.1) E1024.1) K1025.1) K1026.1) K1033.1) (Nat.le_of_eq g1035.symm)
                    have F_steps_b1035 : Fld Z h1035 b1035 "wayfarer/process/RepeatStep$Condition" "steps" "Ljava/util/List;" .null := D1035 (Or.inr (hw _ (List.mem_of_getElem? (i := 39) rfl))) (ty := (.object "java/util/List")) (by decide)
                    have F_ahead_b1035 : Fld Z h1035 b1035 "wayfarer/process/RepeatStep$Condition" "ahead" "Z" (.int (0 : Int32)) := D1035 (Or.inr (hw _ (List.mem_of_getElem? (i := 41) rfl))) (ty := .boolean) (by decide)
                    refine own_step (f' := (mkF m 201 #[.val (.int i1), .val (.int i2), .val (.int i3), .val (.int v3_2_s0), .val (.int v15_4_s0), .val (.int v29_6_s0), .val (.int v40_8_s0), .val .null, .val (.ref b1017), .val (.ref b1023), .val (.int v148_1029_s0), .val (.int (own_st0 v40_8_s0)), .val (.int (own_st0 (i3 &&& (2147483647 : Int32)))), .unset, .unset] [(.ref b1035)])) st1035 ?_
                    refine own_step (f' := (mkF m 202 #[.val (.int i1), .val (.int i2), .val (.int i3), .val (.int v3_2_s0), .val (.int v15_4_s0), .val (.int v29_6_s0), .val (.int v40_8_s0), .val .null, .val (.ref b1017), .val (.ref b1023), .val (.int v148_1029_s0), .val (.int (own_st0 v40_8_s0)), .val (.int (own_st0 (i3 &&& (2147483647 : Int32)))), .unset, .unset] [(.ref b1035), (.ref b1035)])) (fun _ k => XS.dup X1035.here hx rfl (hb hby at_201) rfl rfl k) ?_
                    obtain ⟨T1036, h1036, X1036, e1036, E1036, A1036, D1036, -, st1036⟩ := newO X1035 hx hZ hown (hw _ (List.mem_of_getElem? (i := 3) rfl)) (hw _ (List.mem_of_getElem? (i := 4) rfl)) (hw _ (List.mem_of_getElem? (i := 5) rfl)) e1035 (g := (mkF m 202 #[.val (.int i1), .val (.int i2), .val (.int i3), .val (.int v3_2_s0), .val (.int v15_4_s0), .val (.int v29_6_s0), .val (.int v40_8_s0), .val .null, .val (.ref b1017), .val (.ref b1023), .val (.int v148_1029_s0), .val (.int (own_st0 v40_8_s0)), .val (.int (own_st0 (i3 &&& (2147483647 : Int32)))), .unset, .unset] [(.ref b1035), (.ref b1035)])) rfl (hb hby at_202) (by decide) (by decide)
                    obtain ⟨b1036, g1036⟩ : ∃ z, z = h1035.size := ⟨_, rfl⟩
                    rw [← g1036] at A1036 D1036 st1036
                    have ne_b1017_b1036 : b1017 ≠ b1036 := Nat.ne_of_lt (Nat.lt_of_lt_of_le ((((((P1022_0.ext E1023).ext E1024).keep K1025).keep K1026).keep K1033).ext E1035).lt (Nat.le_of_eq g1036.symm))
                    have ne_b1018_b1036 : b1018 ≠ b1036 := Nat.ne_of_lt (Nat.lt_of_lt_of_le (((((((P1019_0.keep K1022).ext E1023).ext E1024).keep K1025).keep K1026).keep K1033).ext E1035).lt (Nat.le_of_eq g1036.symm))
                    have ne_b1023_b1036 : b1023 ≠ b1036 := Nat.ne_of_lt (Nat.lt_of_lt_of_le ((P1026_0.keep K1033).ext E1035).lt (Nat.le_of_eq g1036.symm))
                    have ne_b1024_b1036 : b1024 ≠ b1036 := Nat.ne_of_lt (Nat.lt_of_lt_of_le (((P1025_0.keep K1026).keep K1033).ext E1035).lt (Nat.le_of_eq g1036.symm))
                    have ne_b1033_b1036 : b1033 ≠ b1036 := Nat.ne_of_lt (Nat.lt_of_lt_of_le (P1033_0.ext E1035).lt (Nat.le_of_eq g1036.symm))
                    have ne_b1035_b1036 : b1035 ≠ b1036 := Nat.ne_of_lt (Nat.lt_of_lt_of_le A1035.lt (Nat.le_of_eq g1036.symm))
                    have g_b1036 : n0 ≤ b1036 := Nat.le_trans (Nat.le_trans (Nat.le_trans (Nat.le_trans (Nat.le_trans (Nat.le_trans (Nat.le_trans (Nat.le_trans (Nat.le_trans (Nat.le_trans (Nat.le_trans Z0 E1017.1) E1018.1) K1019.1) K1022.1) E1023.1) E1024.1) K1025.1) K1026.1) K1033.1) E1035.1) (Nat.le_of_eq g1036.symm)
                    have F_modCount_b1036 : Fld Z h1036 b1036 "java/util/AbstractList" "modCount" "I" (.int (0 : Int32)) := D1036 (Or.inl (hw _ (List.mem_of_getElem? (i := 25) rfl))) (ty := .int) (by decide)
                    have F_elementData_b1036 : Fld Z h1036 b1036 "java/util/ArrayList" "elementData" "[Ljava/lang/Object;" .null := D1036 (Or.inl (hw _ (List.mem_of_getElem? (i := 28) rfl))) (ty := (.array (.object "java/lang/Object"))) (by decide)
                    refine own_step (f' := (mkF m 205 #[.val (.int i1), .val (.int i2), .val (.int i3), .val (.int v3_2_s0), .val (.int v15_4_s0), .val (.int v29_6_s0), .val (.int v40_8_s0), .val .null, .val (.ref b1017), .val (.ref b1023), .val (.int v148_1029_s0), .val (.int (own_st0 v40_8_s0)), .val (.int (own_st0 (i3 &&& (2147483647 : Int32)))), .unset, .unset] [(.ref b1036), (.ref b1035), (.ref b1035)])) st1036 ?_
                    refine own_step (f' := (mkF m 206 #[.val (.int i1), .val (.int i2), .val (.int i3), .val (.int v3_2_s0), .val (.int v15_4_s0), .val (.int v29_6_s0), .val (.int v40_8_s0), .val .null, .val (.ref b1017), .val (.ref b1023), .val (.int v148_1029_s0), .val (.int (own_st0 v40_8_s0)), .val (.int (own_st0 (i3 &&& (2147483647 : Int32)))), .unset, .unset] [(.ref b1036), (.ref b1036), (.ref b1035), (.ref b1035)])) (fun _ k => XS.dup X1036.here hx rfl (hb hby at_205) rfl rfl k) ?_
                    have Zq1037 : n0 ≤ h1036.size := (Nat.le_trans (Nat.le_trans (Nat.le_trans (Nat.le_trans (Nat.le_trans (Nat.le_trans (Nat.le_trans (Nat.le_trans (Nat.le_trans (Nat.le_trans (Nat.le_trans Z0 E1017.1) E1018.1) K1019.1) K1022.1) E1023.1) E1024.1) K1025.1) K1026.1) K1033.1) E1035.1) E1036.1)
                    obtain ⟨_, _, ⟨T1037, L1037, k1037, n1037⟩, -, X1037, ⟨Lc1037, hQ1037, l1037, y1037, z1037⟩, st1037⟩ := X1036.specialBack hx (y := (⟨"java/util/ArrayList", "<init>", "()V"⟩ : MethodName)) rfl hown (mvT hZ (hw _ (List.mem_of_getElem? (i := 6) rfl))) (mvT hZ (hw _ (List.mem_of_getElem? (i := 7) rfl))) (mvT hZ (hw _ (List.mem_of_getElem? (i := 8) rfl))) (by decide) (backOf (W := 3) (rm1 l Z a0 hw [] b1036 (.int (0 : Int32)) .null w1 h1036 n0 Zq1037 A1036 F_modCount_b1036 g_b1036 (((own_staKeep (own_staKeep (own_staKeep (((own_staKeep (own_staKeep ((S_DEFAULTCAPACITY_EMPTY_ELEMENTDATA.ext E1017).ext E1018) K1019 (allS (own_exaNS A1018) all0)) K1022 (allS (own_exaNS ((A1017.ext E1018).keep K1019)) all0)).ext E1023).ext E1024) K1025 (allS (own_exaNS A1024) all0)) K1026 (allS (own_exaNS ((A1023.ext E1024).keep K1025)) all0)) K1033 all0).ext E1035).ext E1036) F_elementData_b1036) hZ (hw _ (List.mem_of_getElem? (i := 8) rfl)) (hw _ (List.mem_of_getElem? (i := 5) rfl)) (by decide) (by decide)) (g := (mkF m 206 #[.val (.int i1), .val (.int i2), .val (.int i3), .val (.int v3_2_s0), .val (.int v15_4_s0), .val (.int v29_6_s0), .val (.int v40_8_s0), .val .null, .val (.ref b1017), .val (.ref b1023), .val (.int v148_1029_s0), .val (.int (own_st0 v40_8_s0)), .val (.int (own_st0 (i3 &&& (2147483647 : Int32)))), .unset, .unset] [(.ref b1036), (.ref b1036), (.ref b1035), (.ref b1035)])) rfl (by rw [hml]; rfl) (Steps.refl _) (a := b1036) (argsL := []) (rest := [(.ref b1036), (.ref b1035), (.ref b1035)]) (lenOf pd_0 rfl) rfl (by show 2 * 0 + _ ≤ _; exact Nat.le_of_eq rfl) (hb hby at_206) (fun _ _ => ⟨rfl, e1036, (by decide : 7 + 0 ≤ _), (by decide : 21 + 0 ≤ _)⟩)
                    dsimp only [Pt.U, Pt.locs, Pt.cells, Pt.slots] at X1037 l1037 y1037 z1037 st1037 hQ1037
                    subst l1037 y1037 z1037
                    obtain ⟨rfl, Nq1037, K1037, P1037_0, P1037_1, P1037_2⟩ := hQ1037
                    obtain ⟨Lo1037, X1037, N1037⟩ : ∃ K, Stand p l e room_1 s m #[(.int i1), (.int i2), (.int i3)] below meth c T1037 K 7 21 ∧ Fr n0 K := ⟨_, X1037, (Fr.app N1033 Nq1037)⟩
                    refine own_jump (f' := (mkF m 209 #[.val (.int i1), .val (.int i2), .val (.int i3), .val (.int v3_2_s0), .val (.int v15_4_s0), .val (.int v29_6_s0), .val (.int v40_8_s0), .val .null, .val (.ref b1017), .val (.ref b1023), .val (.int v148_1029_s0), .val (.int (own_st0 v40_8_s0)), .val (.int (own_st0 (i3 &&& (2147483647 : Int32)))), .unset, .unset] [(.ref b1036), (.ref b1035), (.ref b1035)])) st1037 ?_
                    refine own_step (f' := (mkF m 210 #[.val (.int i1), .val (.int i2), .val (.int i3), .val (.int v3_2_s0), .val (.int v15_4_s0), .val (.int v29_6_s0), .val (.int v40_8_s0), .val .null, .val (.ref b1017), .val (.ref b1023), .val (.int v148_1029_s0), .val (.int (own_st0 v40_8_s0)), .val (.int (own_st0 (i3 &&& (2147483647 : Int32)))), .unset, .unset] [(.int i2), (.ref b1036), (.ref b1035), (.ref b1035)])) (fun _ k => XS.iloadN X1037.here hx rfl (hb hby at_209) rfl k) ?_
                    refine own_step (f' := (mkF m 212 #[.val (.int i1), .val (.int i2), .val (.int i3), .val (.int v3_2_s0), .val (.int v15_4_s0), .val (.int v29_6_s0), .val (.int v40_8_s0), .val .null, .val (.ref b1017), .val (.ref b1023), .val (.int v148_1029_s0), .val (.int (own_st0 v40_8_s0)), .val (.int (own_st0 (i3 &&& (2147483647 : Int32)))), .unset, .unset] [(.int (32 : Int32)), (.int i2), (.ref b1036), (.ref b1035), (.ref b1035)])) (fun _ k => XS.bipush X1037.here hx rfl (hb hby at_210) k) ?_
                    refine own_step (f' := (mkF m 213 #[.val (.int i1), .val (.int i2), .val (.int i3), .val (.int v3_2_s0), .val (.int v15_4_s0), .val (.int v29_6_s0), .val (.int v40_8_s0), .val .null, .val (.ref b1017), .val (.ref b1023), .val (.int v148_1029_s0), .val (.int (own_st0 v40_8_s0)), .val (.int (own_st0 (i3 &&& (2147483647 : Int32)))), .unset, .unset] [(.int (i2 &&& (32 : Int32))), (.ref b1036), (.ref b1035), (.ref b1035)])) (fun _ k => XS.iand X1037.here hx rfl (hb hby at_212) rfl k) ?_
                    have J213_1039 : ∀ (T213_1039 : State) (v213_1039_s0 : Int32), Stand p l e room_1 s m #[(.int i1), (.int i2), (.int i3)] below meth c T213_1039 Lo1037 7 21 → T213_1039.heap = T1037.heap → v213_1039_s0 = (if (i2 &&& (32 : Int32)) = (0 : Int32) then (0 : Int32) else (1 : Int32)) → own_Goes p e below s (Q0 Z i1 i2 i3 w1 h0 n0) room_1.cells room_1.slots T213_1039 (mkF m 221 #[.val (.int i1), .val (.int i2), .val (.int i3), .val (.int v3_2_s0), .val (.int v15_4_s0), .val (.int v29_6_s0), .val (.int v40_8_s0), .val .null, .val (.ref b1017), .val (.ref b1023), .val (.int v148_1029_s0), .val (.int (own_st0 v40_8_s0)), .val (.int (own_st0 (i3 &&& (2147483647 : Int32)))), .unset, .unset] [(.int v213_1039_s0), (.ref b1036), (.ref b1035), (.ref b1035)]) := by
                      intro T213_1039 v213_1039_s0 X213_1039 e213_1039 hv213_1039_0
                      have Zq1040 : n0 ≤ T1037.heap.size := (Nat.le_trans (Nat.le_trans (Nat.le_trans (Nat.le_trans (Nat.le_trans (Nat.le_trans (Nat.le_trans (Nat.le_trans (Nat.le_trans (Nat.le_trans (Nat.le_trans (Nat.le_trans Z0 E1017.1) E1018.1) K1019.1) K1022.1) E1023.1) E1024.1) K1025.1) K1026.1) K1033.1) E1035.1) E1036.1) K1037.1)
                      obtain ⟨_, _, ⟨T1040, L1040, k1040, n1040⟩, -, X1040, ⟨Lc1040, hQ1040, l1040, y1040, z1040⟩, st1040⟩ := X213_1039.specialBack hx (y := (⟨"wayfarer/process/RepeatStep$Condition", "<init>", "(Ljava/util/List;Z)V"⟩ : MethodName)) rfl hown (mvT hZ (hw _ (List.mem_of_getElem? (i := 29) rfl))) (mvT hZ (hw _ (List.mem_of_getElem? (i := 30) rfl))) (mvT hZ (hw _ (List.mem_of_getElem? (i := 31) rfl))) (by decide) (backOf (W := 1) (rm5 l Z a0 hw [] b1035 b1036 v213_1039_s0 .null (.int (0 : Int32)) T1037.heap n0 Zq1040 ((A1035.ext E1036).keep K1037) ((F_steps_b1035.ext E1036).keep K1037 (ninS ne_b1035_b1036 nin0)) ((F_ahead_b1035.ext E1036).keep K1037 (ninS ne_b1035_b1036 nin0)) g_b1035) hZ (hw _ (List.mem_of_getElem? (i := 31) rfl)) (hw _ (List.mem_of_getElem? (i := 2) rfl)) (by decide) (by decide)) (g := (mkF m 221 #[.val (.int i1), .val (.int i2), .val (.int i3), .val (.int v3_2_s0), .val (.int v15_4_s0), .val (.int v29_6_s0), .val (.int v40_8_s0), .val .null, .val (.ref b1017), .val (.ref b1023), .val (.int v148_1029_s0), .val (.int (own_st0 v40_8_s0)), .val (.int (own_st0 (i3 &&& (2147483647 : Int32)))), .unset, .unset] [(.int v213_1039_s0), (.ref b1036), (.ref b1035), (.ref b1035)])) rfl (by rw [hml]; rfl) (Steps.refl _) (a := b1035) (argsL := [(.ref b1036), (.int v213_1039_s0)]) (rest := [(.ref b1035)]) (lenOf pd_4 rfl) rfl (by show 2 * 0 + _ ≤ _; exact Nat.le_of_eq rfl) (hb hby at_221) (fun _ _ => ⟨rfl, e213_1039, (by decide : 7 + 0 ≤ _), (by decide : 21 + 0 ≤ _)⟩)
                      dsimp only [Pt.U, Pt.locs, Pt.cells, Pt.slots] at X1040 l1040 y1040 z1040 st1040 hQ1040
                      subst l1040 y1040 z1040
                      obtain ⟨rfl, Nq1040, K1040, P1040_0⟩ := hQ1040
                      obtain ⟨Lo1040, X1040, N1040⟩ : ∃ K, Stand p l e room_1 s m #[(.int i1), (.int i2), (.int i3)] below meth c T1040 K 7 21 ∧ Fr n0 K := ⟨_, X1040, (Fr.app N1037 Nq1040)⟩
                      refine own_jump (f' := (mkF m 224 #[.val (.int i1), .val (.int i2), .val (.int i3), .val (.int v3_2_s0), .val (.int v15_4_s0), .val (.int v29_6_s0), .val (.int v40_8_s0), .val .null, .val (.ref b1017), .val (.ref b1023), .val (.int v148_1029_s0), .val (.int (own_st0 v40_8_s0)), .val (.int (own_st0 (i3 &&& (2147483647 : Int32)))), .unset, .unset] [(.ref b1035)])) st1040 ?_
                      refine own_step (f' := (mkF m 226 #[.val (.int i1), .val (.int i2), .val (.int i3), .val (.int v3_2_s0), .val (.int v15_4_s0), .val (.int v29_6_s0), .val (.int v40_8_s0), .val .null, .val (.ref b1017), .val (.ref b1023), .val (.int v148_1029_s0), .val (.int (own_st0 v40_8_s0)), .val (.int (own_st0 (i3 &&& (2147483647 : Int32)))), .val (.ref b1035), .unset] [])) (fun _ k => XS.astore X1040.here hx rfl (hb hby at_224) rfl rfl (l' := #[.val (.int i1), .val (.int i2), .val (.int i3), .val (.int v3_2_s0), .val (.int v15_4_s0), .val (.int v29_6_s0), .val (.int v40_8_s0), .val .null, .val (.ref b1017), .val (.ref b1023), .val (.int v148_1029_s0), .val (.int (own_st0 v40_8_s0)), .val (.int (own_st0 (i3 &&& (2147483647 : Int32)))), .val (.ref b1035), .unset]) rfl k) ?_
                      refine own_step (f' := (mkF m 228 #[.val (.int i1), .val (.int i2), .val (.int i3), .val (.int v3_2_s0), .val (.int v15_4_s0), .val (.int v29_6_s0), .val (.int v40_8_s0), .val .null, .val (.ref b1017), .val (.ref b1023), .val (.int v148_1029_s0), .val (.int (own_st0 v40_8_s0)), .val (.int (own_st0 (i3 &&& (2147483647 : Int32)))), .val (.ref b1035), .unset] [(.ref b1023)])) (fun _ k => XS.aload X1040.here hx rfl (hb hby at_226) rfl rfl k) ?_
                      refine own_step (f' := (mkF m 230 #[.val (.int i1), .val (.int i2), .val (.int i3), .val (.int v3_2_s0), .val (.int v15_4_s0), .val (.int v29_6_s0), .val (.int v40_8_s0), .val .null, .val (.ref b1017), .val (.ref b1023), .val (.int v148_1029_s0), .val (.int (own_st0 v40_8_s0)), .val (.int (own_st0 (i3 &&& (2147483647 : Int32)))), .val (.ref b1035), .unset] [(.ref b1035), (.ref b1023)])) (fun _ k => XS.aload X1040.here hx rfl (hb hby at_228) rfl rfl k) ?_
                      have hp1041_hp : own_st0 v40_8_s0 = (0 : Int32) := hc181_1032
                      have Zq1041 : n0 ≤ T1040.heap.size := (Nat.le_trans (Nat.le_trans (Nat.le_trans (Nat.le_trans (Nat.le_trans (Nat.le_trans (Nat.le_trans (Nat.le_trans (Nat.le_trans (Nat.le_trans (Nat.le_trans (Nat.le_trans (Nat.le_trans Z0 E1017.1) E1018.1) K1019.1) K1022.1) E1023.1) E1024.1) K1025.1) K1026.1) K1033.1) E1035.1) E1036.1) K1037.1) K1040.1)
                      obtain ⟨cq1041, kq1041, q1041a, q1041b, q1041c⟩ := isOf hZ rfl (((((P1026_0.keep K1033).ext E1035).ext E1036).keep K1037).keep K1040)
                      obtain ⟨_, _, ⟨T1041, L1041, k1041, n1041⟩, -, X1041, ⟨Lc1041, hQ1041, l1041, y1041, z1041⟩, st1041⟩ := X1040.virtualBack hx (y := (⟨"wayfarer/process/RepeatStep", "withUntil", "(Lwayfarer/process/RepeatStep$Condition;)Lwayfarer/process/RepeatStep;"⟩ : MethodName)) (z := (⟨"wayfarer/process/RepeatStep", "withUntil", "(Lwayfarer/process/RepeatStep$Condition;)Lwayfarer/process/RepeatStep;"⟩ : MethodName)) hown (mvT hZ (hw _ (List.mem_of_getElem? (i := 75) rfl))) (mvT hZ (hw _ (List.mem_of_getElem? (i := 76) rfl))) (notFace_of_selects (args := #[]) (mvT hZ (hw _ (List.mem_of_getElem? (i := 78) rfl)))) (mvT hZ (hw _ (List.mem_of_getElem? (i := 78) rfl))) (mvT hZ (hw _ (List.mem_of_getElem? (i := 77) rfl))) (by decide) (backOf (W := 0) (rm11r l Z a0 hw [] b1023 b1035 b1024 v40_8_s0 b1017 T1040.heap n0 Zq1041 (((((P1026_0.keep K1033).ext E1035).ext E1036).keep K1037).keep K1040) (((((P1026_1.keep K1033 nin0).ext E1035).ext E1036).keep K1037 (ninS ne_b1023_b1036 nin0)).keep K1040 (ninS ne_b1023_b1035 nin0)) (((((P1026_2.keep K1033 nin0).ext E1035).ext E1036).keep K1037 (ninS ne_b1023_b1036 nin0)).keep K1040 (ninS ne_b1023_b1035 nin0)) (((((P1026_3.keep K1033 nin0).ext E1035).ext E1036).keep K1037 (ninS ne_b1023_b1036 nin0)).keep K1040 (ninS ne_b1023_b1035 nin0)) (((((P1026_4.keep K1033 nin0).ext E1035).ext E1036).keep K1037 (ninS ne_b1023_b1036 nin0)).keep K1040 (ninS ne_b1023_b1035 nin0)) hp1041_hp) hZ (hw _ (List.mem_of_getElem? (i := 79) rfl)) (hw _ (List.mem_of_getElem? (i := 44) rfl)) (by decide) (by decide)) q1041a q1041c (g := (mkF m 230 #[.val (.int i1), .val (.int i2), .val (.int i3), .val (.int v3_2_s0), .val (.int v15_4_s0), .val (.int v29_6_s0), .val (.int v40_8_s0), .val .null, .val (.ref b1017), .val (.ref b1023), .val (.int v148_1029_s0), .val (.int (own_st0 v40_8_s0)), .val (.int (own_st0 (i3 &&& (2147483647 : Int32)))), .val (.ref b1035), .unset] [(.ref b1035), (.ref b1023)])) rfl (by rw [hml]; rfl) (Steps.refl _) (argsL := [(.ref b1035)]) (rest := []) (lenOf pd_5 rfl) rfl (by show 2 * 0 + _ ≤ _; exact Nat.le_of_eq rfl) (hb hby at_230) (fun _ _ => ⟨rfl, rfl, (by decide : 7 + 1 ≤ _), (by decide : 21 + 4 ≤ _)⟩)
                      dsimp only [Pt.U, Pt.locs, Pt.cells, Pt.slots] at X1041 l1041 y1041 z1041 st1041 hQ1041
                      subst l1041 y1041 z1041
                      obtain ⟨b1041, rfl, g_b1041, sq_b1041, Nq1041, K1041, P1041_0, P1041_1, P1041_2⟩ := hQ1041
                      obtain ⟨Lo1041, X1041, N1041⟩ : ∃ K, Stand p l e room_1 s m #[(.int i1), (.int i2), (.int i3)] below meth c T1041 K 8 25 ∧ Fr n0 K := ⟨_, X1041, (Fr.app N1040 Nq1041)⟩
                      have ne_b1017_b1041 : b1017 ≠ b1041 := Nat.ne_of_lt (Nat.lt_of_lt_of_le (((((((((P1022_0.ext E1023).ext E1024).keep K1025).keep K1026).keep K1033).ext E1035).ext E1036).keep K1037).keep K1040).lt sq_b1041)
                      have ne_b1018_b1041 : b1018 ≠ b1041 := Nat.ne_of_lt (Nat.lt_of_lt_of_le ((((((((((P1019_0.keep K1022).ext E1023).ext E1024).keep K1025).keep K1026).keep K1033).ext E1035).ext E1036).keep K1037).keep K1040).lt sq_b1041)
                      have ne_b1023_b1041 : b1023 ≠ b1041 := Nat.ne_of_lt (Nat.lt_of_lt_of_le (((((P1026_0.keep K1033).ext E1035).ext E1036).keep K1037).keep K1040).lt sq_b1041)
                      have ne_b1024_b1041 : b1024 ≠ b1041 := Nat.ne_of_lt (Nat.lt_of_lt_of_le ((((((P1025_0.keep K1026).keep K1033).ext E1035).ext E1036).keep K1037).keep K1040).lt sq_b1041)
                      have ne_b1033_b1041 : b1033 ≠ b1041 := Nat.ne_of_lt (Nat.lt_of_lt_of_le ((((P1033_0.ext E1035).ext E1036).keep K1037).keep K1040).lt sq_b1041)
                      have ne_b1035_b1041 : b1035 ≠ b1041 := Nat.ne_of_lt (Nat.lt_of_lt_of_le P1040_0.lt sq_b1041)
                      have ne_b1036_b1041 : b1036 ≠ b1041 := Nat.ne_of_lt (Nat.lt_of_lt_of_le (P1037_0.keep K1040).lt sq_b1041)
                      refine own_jump (f' := (mkF m 233 #[.val (.int i1), .val (.int i2), .val (.int i3), .val (.int v3_2_s0), .val (.int v15_4_s0), .val (.int v29_6_s0), .val (.int v40_8_s0), .val .null, .val (.ref b1017), .val (.ref b1023), .val (.int v148_1029_s0), .val (.int (own_st0 v40_8_s0)), .val (.int (own_st0 (i3 &&& (2147483647 : Int32)))), .val (.ref b1035), .unset] [(.ref b1041)])) st1041 ?_
                      have Zq1042 : n0 ≤ T1041.heap.size := (Nat.le_trans (Nat.le_trans (Nat.le_trans (Nat.le_trans (Nat.le_trans (Nat.le_trans (Nat.le_trans (Nat.le_trans (Nat.le_trans (Nat.le_trans (Nat.le_trans (Nat.le_trans (Nat.le_trans (Nat.le_trans Z0 E1017.1) E1018.1) K1019.1) K1022.1) E1023.1) E1024.1) K1025.1) K1026.1) K1033.1) E1035.1) E1036.1) K1037.1) K1040.1) K1041.1)
                      obtain ⟨cq1042, kq1042, q1042a, q1042b, q1042c⟩ := isOf hZ rfl P1041_0
                      obtain ⟨_, _, ⟨T1042, L1042, k1042, n1042⟩, -, X1042, ⟨Lc1042, hQ1042, l1042, y1042, z1042⟩, st1042⟩ := X1041.virtualBack hx (y := (⟨"wayfarer/process/RepeatStep", "stops", "()Z"⟩ : MethodName)) (z := (⟨"wayfarer/process/RepeatStep", "stops", "()Z"⟩ : MethodName)) hown (mvT hZ (hw _ (List.mem_of_getElem? (i := 57) rfl))) (mvT hZ (hw _ (List.mem_of_getElem? (i := 58) rfl))) (notFace_of_selects (args := #[]) (mvT hZ (hw _ (List.mem_of_getElem? (i := 60) rfl)))) (mvT hZ (hw _ (List.mem_of_getElem? (i := 60) rfl))) (mvT hZ (hw _ (List.mem_of_getElem? (i := 59) rfl))) (by decide) (backOf (W := 0) (rm8r l Z a0 hw [] b1041 v40_8_s0 b1035 T1041.heap n0 Zq1042 P1041_1 P1041_2) hZ (hw _ (List.mem_of_getElem? (i := 61) rfl)) (hw _ (List.mem_of_getElem? (i := 44) rfl)) (by decide) (by decide)) q1042a q1042c (g := (mkF m 233 #[.val (.int i1), .val (.int i2), .val (.int i3), .val (.int v3_2_s0), .val (.int v15_4_s0), .val (.int v29_6_s0), .val (.int v40_8_s0), .val .null, .val (.ref b1017), .val (.ref b1023), .val (.int v148_1029_s0), .val (.int (own_st0 v40_8_s0)), .val (.int (own_st0 (i3 &&& (2147483647 : Int32)))), .val (.ref b1035), .unset] [(.ref b1041)])) rfl (by rw [hml]; rfl) (Steps.refl _) (argsL := []) (rest := []) (lenOf pd_1 rfl) rfl (by show 2 * 0 + _ ≤ _; exact Nat.le_of_eq rfl) (hb hby at_233) (fun _ _ => ⟨rfl, rfl, (by decide : 8 + 0 ≤ _), (by decide : 25 + 0 ≤ _)⟩)
                      dsimp only [Pt.U, Pt.locs, Pt.cells, Pt.slots] at X1042 l1042 y1042 z1042 st1042 hQ1042
                      subst l1042 y1042 z1042
                      obtain ⟨rfl, rfl, e1042⟩ := hQ1042
                      try rw [List.append_nil] at X1042
                      refine own_jump (f' := (mkF m 236 #[.val (.int i1), .val (.int i2), .val (.int i3), .val (.int v3_2_s0), .val (.int v15_4_s0), .val (.int v29_6_s0), .val (.int v40_8_s0), .val .null, .val (.ref b1017), .val (.ref b1023), .val (.int v148_1029_s0), .val (.int (own_st0 v40_8_s0)), .val (.int (own_st0 (i3 &&& (2147483647 : Int32)))), .val (.ref b1035), .unset] [(.int (1 : Int32))])) st1042 ?_
                      refine own_step (f' := (mkF m 238 #[.val (.int i1), .val (.int i2), .val (.int i3), .val (.int v3_2_s0), .val (.int v15_4_s0), .val (.int v29_6_s0), .val (.int v40_8_s0), .val .null, .val (.ref b1017), .val (.ref b1023), .val (.int v148_1029_s0), .val (.int (own_st0 v40_8_s0)), .val (.int (own_st0 (i3 &&& (2147483647 : Int32)))), .val (.ref b1035), .val (.int (1 : Int32))] [])) (fun _ k => XS.istore X1042.here hx rfl (hb hby at_236) rfl (l' := #[.val (.int i1), .val (.int i2), .val (.int i3), .val (.int v3_2_s0), .val (.int v15_4_s0), .val (.int v29_6_s0), .val (.int v40_8_s0), .val .null, .val (.ref b1017), .val (.ref b1023), .val (.int v148_1029_s0), .val (.int (own_st0 v40_8_s0)), .val (.int (own_st0 (i3 &&& (2147483647 : Int32)))), .val (.ref b1035), .val (.int (1 : Int32))]) rfl k) ?_
                      refine own_step (f' := (mkF m 240 #[.val (.int i1), .val (.int i2), .val (.int i3), .val (.int v3_2_s0), .val (.int v15_4_s0), .val (.int v29_6_s0), .val (.int v40_8_s0), .val .null, .val (.ref b1017), .val (.ref b1023), .val (.int v148_1029_s0), .val (.int (own_st0 v40_8_s0)), .val (.int (own_st0 (i3 &&& (2147483647 : Int32)))), .val (.ref b1035), .val (.int (1 : Int32))] [(.int (own_st0 (i3 &&& (2147483647 : Int32))))])) (fun _ k => XS.iload X1042.here hx rfl (hb hby at_238) rfl k) ?_
                      have hf240_1043 : ¬ ((own_st0 (i3 &&& (2147483647 : Int32))) = (0 : Int32)) := own_m i3
                      refine own_step (f' := (mkF m 243 #[.val (.int i1), .val (.int i2), .val (.int i3), .val (.int v3_2_s0), .val (.int v15_4_s0), .val (.int v29_6_s0), .val (.int v40_8_s0), .val .null, .val (.ref b1017), .val (.ref b1023), .val (.int v148_1029_s0), .val (.int (own_st0 v40_8_s0)), .val (.int (own_st0 (i3 &&& (2147483647 : Int32)))), .val (.ref b1035), .val (.int (1 : Int32))] [])) (fun _ k => XS.ifNo X1042.here hx rfl (hb hby at_240) rfl ((if0 _ _).trans (feq hf240_1043).1) k) ?_
                      refine own_step (f' := (mkF m 245 #[.val (.int i1), .val (.int i2), .val (.int i3), .val (.int v3_2_s0), .val (.int v15_4_s0), .val (.int v29_6_s0), .val (.int v40_8_s0), .val .null, .val (.ref b1017), .val (.ref b1023), .val (.int v148_1029_s0), .val (.int (own_st0 v40_8_s0)), .val (.int (own_st0 (i3 &&& (2147483647 : Int32)))), .val (.ref b1035), .val (.int (1 : Int32))] [(.int (1 : Int32))])) (fun _ k => XS.iload X1042.here hx rfl (hb hby at_243) rfl k) ?_
                      refine own_step (f' := (mkF m 248 #[.val (.int i1), .val (.int i2), .val (.int i3), .val (.int v3_2_s0), .val (.int v15_4_s0), .val (.int v29_6_s0), .val (.int v40_8_s0), .val .null, .val (.ref b1017), .val (.ref b1023), .val (.int v148_1029_s0), .val (.int (own_st0 v40_8_s0)), .val (.int (own_st0 (i3 &&& (2147483647 : Int32)))), .val (.ref b1035), .val (.int (1 : Int32))] [])) (fun _ k => XS.ifNo X1042.here hx rfl (hb hby at_245) rfl ((if0 _ _).trans (feq (by decide : ¬ ((1 : Int32) = (0 : Int32)))).1) k) ?_
                      refine own_step (f' := (mkF m 249 #[.val (.int i1), .val (.int i2), .val (.int i3), .val (.int v3_2_s0), .val (.int v15_4_s0), .val (.int v29_6_s0), .val (.int v40_8_s0), .val .null, .val (.ref b1017), .val (.ref b1023), .val (.int v148_1029_s0), .val (.int (own_st0 v40_8_s0)), .val (.int (own_st0 (i3 &&& (2147483647 : Int32)))), .val (.ref b1035), .val (.int (1 : Int32))] [(.int (1 : Int32))])) (fun _ k => XS.iconst X1042.here hx rfl (hb hby at_248) k) ?_
                      refine own_step (f' := (mkF m 253 #[.val (.int i1), .val (.int i2), .val (.int i3), .val (.int v3_2_s0), .val (.int v15_4_s0), .val (.int v29_6_s0), .val (.int v40_8_s0), .val .null, .val (.ref b1017), .val (.ref b1023), .val (.int v148_1029_s0), .val (.int (own_st0 v40_8_s0)), .val (.int (own_st0 (i3 &&& (2147483647 : Int32)))), .val (.ref b1035), .val (.int (1 : Int32))] [(.int (1 : Int32))])) (fun _ k => XS.goto X1042.here hx rfl (pc0 := 249) (pc' := 253) rfl (hb hby at_249) (by decide) (by decide) k) ?_
                      refine own_out (v := some (.int (1 : Int32))) X1042 hlk (fun h => by rw [Bd.returns] at h; cases h) (fun fs hr => retN X1042 hx (t := .boolean) Bd.returns (by simp) (hb hby at_253) hr) (by decide) (by decide) ?_
                      exact ⟨rfl, N1041⟩
                    by_cases hc213_1038 : (i2 &&& (32 : Int32)) = (0 : Int32)
                    · refine own_step (f' := (mkF m 220 #[.val (.int i1), .val (.int i2), .val (.int i3), .val (.int v3_2_s0), .val (.int v15_4_s0), .val (.int v29_6_s0), .val (.int v40_8_s0), .val .null, .val (.ref b1017), .val (.ref b1023), .val (.int v148_1029_s0), .val (.int (own_st0 v40_8_s0)), .val (.int (own_st0 (i3 &&& (2147483647 : Int32)))), .unset, .unset] [(.ref b1036), (.ref b1035), (.ref b1035)])) (fun _ k => XS.ifYes X1037.here hx rfl (pc0 := 213) (pc' := 220) rfl (hb hby at_213) rfl ((if0 _ _).trans (teq hc213_1038).1) (by decide) (by decide) k) ?_
                      refine own_step (f' := (mkF m 221 #[.val (.int i1), .val (.int i2), .val (.int i3), .val (.int v3_2_s0), .val (.int v15_4_s0), .val (.int v29_6_s0), .val (.int v40_8_s0), .val .null, .val (.ref b1017), .val (.ref b1023), .val (.int v148_1029_s0), .val (.int (own_st0 v40_8_s0)), .val (.int (own_st0 (i3 &&& (2147483647 : Int32)))), .unset, .unset] [(.int (0 : Int32)), (.ref b1036), (.ref b1035), (.ref b1035)])) (fun _ k => XS.iconst X1037.here hx rfl (hb hby at_220) k) ?_
                      exact J213_1039 _ (0 : Int32) X1037 rfl (by rw [if_pos hc213_1038])
                    · refine own_step (f' := (mkF m 216 #[.val (.int i1), .val (.int i2), .val (.int i3), .val (.int v3_2_s0), .val (.int v15_4_s0), .val (.int v29_6_s0), .val (.int v40_8_s0), .val .null, .val (.ref b1017), .val (.ref b1023), .val (.int v148_1029_s0), .val (.int (own_st0 v40_8_s0)), .val (.int (own_st0 (i3 &&& (2147483647 : Int32)))), .unset, .unset] [(.ref b1036), (.ref b1035), (.ref b1035)])) (fun _ k => XS.ifNo X1037.here hx rfl (hb hby at_213) rfl ((if0 _ _).trans (feq hc213_1038).1) k) ?_
                      refine own_step (f' := (mkF m 217 #[.val (.int i1), .val (.int i2), .val (.int i3), .val (.int v3_2_s0), .val (.int v15_4_s0), .val (.int v29_6_s0), .val (.int v40_8_s0), .val .null, .val (.ref b1017), .val (.ref b1023), .val (.int v148_1029_s0), .val (.int (own_st0 v40_8_s0)), .val (.int (own_st0 (i3 &&& (2147483647 : Int32)))), .unset, .unset] [(.int (1 : Int32)), (.ref b1036), (.ref b1035), (.ref b1035)])) (fun _ k => XS.iconst X1037.here hx rfl (hb hby at_216) k) ?_
                      refine own_step (f' := (mkF m 221 #[.val (.int i1), .val (.int i2), .val (.int i3), .val (.int v3_2_s0), .val (.int v15_4_s0), .val (.int v29_6_s0), .val (.int v40_8_s0), .val .null, .val (.ref b1017), .val (.ref b1023), .val (.int v148_1029_s0), .val (.int (own_st0 v40_8_s0)), .val (.int (own_st0 (i3 &&& (2147483647 : Int32)))), .unset, .unset] [(.int (1 : Int32)), (.ref b1036), (.ref b1035), (.ref b1035)])) (fun _ k => XS.goto X1037.here hx rfl (pc0 := 217) (pc' := 221) rfl (hb hby at_217) (by decide) (by decide) k) ?_
                      exact J213_1039 _ (1 : Int32) X1037 rfl (by rw [if_neg hc213_1038])
                  · refine own_step (f' := (mkF m 254 #[.val (.int i1), .val (.int i2), .val (.int i3), .val (.int v3_2_s0), .val (.int v15_4_s0), .val (.int v29_6_s0), .val (.int v40_8_s0), .val .null, .val (.ref b1017), .val (.ref b1023), .val (.int v148_1029_s0), .val (.int (own_st0 v40_8_s0)), .unset, .unset, .unset] [])) (fun _ k => XS.ifYes X1030.here hx rfl (pc0 := 181) (pc' := 254) rfl (hb hby at_181) rfl ((if0 _ _).trans (feq hc181_1032).2) (by decide) (by decide) k) ?_
                    refine own_step (f' := (mkF m 255 #[.val (.int i1), .val (.int i2), .val (.int i3), .val (.int v3_2_s0), .val (.int v15_4_s0), .val (.int v29_6_s0), .val (.int v40_8_s0), .val .null, .val (.ref b1017), .val (.ref b1023), .val (.int v148_1029_s0), .val (.int (own_st0 v40_8_s0)), .unset, .unset, .unset] [(.int (1 : Int32))])) (fun _ k => XS.iconst X1030.here hx rfl (hb hby at_254) k) ?_
                    refine own_out (v := some (.int (1 : Int32))) X1030 hlk (fun h => by rw [Bd.returns] at h; cases h) (fun fs hr => retN X1030 hx (t := .boolean) Bd.returns (by simp) (hb hby at_255) hr) (by decide) (by decide) ?_
                    exact ⟨rfl, N1026⟩
                by_cases hc148_1027 : v40_8_s0 = (-1 : Int32)
                · refine own_step (f' := (mkF m 151 #[.val (.int i1), .val (.int i2), .val (.int i3), .val (.int v3_2_s0), .val (.int v15_4_s0), .val (.int v29_6_s0), .val (.int v40_8_s0), .val .null, .val (.ref b1017), .val (.ref b1023), .unset, .unset, .unset, .unset, .unset] [])) (fun _ k => XS.icmpNo X1026.here hx rfl (hb hby at_148) rfl (teq hc148_1027).2 k) ?_
                  refine own_step (f' := (mkF m 153 #[.val (.int i1), .val (.int i2), .val (.int i3), .val (.int v3_2_s0), .val (.int v15_4_s0), .val (.int v29_6_s0), .val (.int v40_8_s0), .val .null, .val (.ref b1017), .val (.ref b1023), .unset, .unset, .unset, .unset, .unset] [(.int v15_4_s0)])) (fun _ k => XS.iload X1026.here hx rfl (hb hby at_151) rfl k) ?_
                  by_cases hc153_2028 : v15_4_s0 = (0 : Int32)
                  · refine own_step (f' := (mkF m 160 #[.val (.int i1), .val (.int i2), .val (.int i3), .val (.int v3_2_s0), .val (.int v15_4_s0), .val (.int v29_6_s0), .val (.int v40_8_s0), .val .null, .val (.ref b1017), .val (.ref b1023), .unset, .unset, .unset, .unset, .unset] [])) (fun _ k => XS.ifYes X1026.here hx rfl (pc0 := 153) (pc' := 160) rfl (hb hby at_153) rfl ((if0 _ _).trans (teq hc153_2028).1) (by decide) (by decide) k) ?_
                    refine own_step (f' := (mkF m 161 #[.val (.int i1), .val (.int i2), .val (.int i3), .val (.int v3_2_s0), .val (.int v15_4_s0), .val (.int v29_6_s0), .val (.int v40_8_s0), .val .null, .val (.ref b1017), .val (.ref b1023), .unset, .unset, .unset, .unset, .unset] [(.int (0 : Int32))])) (fun _ k => XS.iconst X1026.here hx rfl (hb hby at_160) k) ?_
                    exact J148_1029 _ (0 : Int32) X1026 rfl (by rw [if_pos hc148_1027, if_pos hc153_2028])
                  · refine own_step (f' := (mkF m 156 #[.val (.int i1), .val (.int i2), .val (.int i3), .val (.int v3_2_s0), .val (.int v15_4_s0), .val (.int v29_6_s0), .val (.int v40_8_s0), .val .null, .val (.ref b1017), .val (.ref b1023), .unset, .unset, .unset, .unset, .unset] [])) (fun _ k => XS.ifNo X1026.here hx rfl (hb hby at_153) rfl ((if0 _ _).trans (feq hc153_2028).1) k) ?_
                    refine own_step (f' := (mkF m 157 #[.val (.int i1), .val (.int i2), .val (.int i3), .val (.int v3_2_s0), .val (.int v15_4_s0), .val (.int v29_6_s0), .val (.int v40_8_s0), .val .null, .val (.ref b1017), .val (.ref b1023), .unset, .unset, .unset, .unset, .unset] [(.int (1 : Int32))])) (fun _ k => XS.iconst X1026.here hx rfl (hb hby at_156) k) ?_
                    refine own_step (f' := (mkF m 161 #[.val (.int i1), .val (.int i2), .val (.int i3), .val (.int v3_2_s0), .val (.int v15_4_s0), .val (.int v29_6_s0), .val (.int v40_8_s0), .val .null, .val (.ref b1017), .val (.ref b1023), .unset, .unset, .unset, .unset, .unset] [(.int (1 : Int32))])) (fun _ k => XS.goto X1026.here hx rfl (pc0 := 157) (pc' := 161) rfl (hb hby at_157) (by decide) (by decide) k) ?_
                    exact J148_1029 _ (1 : Int32) X1026 rfl (by rw [if_pos hc148_1027, if_neg hc153_2028])
                · refine own_step (f' := (mkF m 156 #[.val (.int i1), .val (.int i2), .val (.int i3), .val (.int v3_2_s0), .val (.int v15_4_s0), .val (.int v29_6_s0), .val (.int v40_8_s0), .val .null, .val (.ref b1017), .val (.ref b1023), .unset, .unset, .unset, .unset, .unset] [])) (fun _ k => XS.icmpYes X1026.here hx rfl (pc0 := 148) (pc' := 156) rfl (hb hby at_148) rfl (feq hc148_1027).2 (by decide) (by decide) k) ?_
                  refine own_step (f' := (mkF m 157 #[.val (.int i1), .val (.int i2), .val (.int i3), .val (.int v3_2_s0), .val (.int v15_4_s0), .val (.int v29_6_s0), .val (.int v40_8_s0), .val .null, .val (.ref b1017), .val (.ref b1023), .unset, .unset, .unset, .unset, .unset] [(.int (1 : Int32))])) (fun _ k => XS.iconst X1026.here hx rfl (hb hby at_156) k) ?_
                  refine own_step (f' := (mkF m 161 #[.val (.int i1), .val (.int i2), .val (.int i3), .val (.int v3_2_s0), .val (.int v15_4_s0), .val (.int v29_6_s0), .val (.int v40_8_s0), .val .null, .val (.ref b1017), .val (.ref b1023), .unset, .unset, .unset, .unset, .unset] [(.int (1 : Int32))])) (fun _ k => XS.goto X1026.here hx rfl (pc0 := 157) (pc' := 161) rfl (hb hby at_157) (by decide) (by decide) k) ?_
                  exact J148_1029 _ (1 : Int32) X1026 rfl (by rw [if_neg hc148_1027])
              by_cases hc106_1020 : (i2 &&& (16 : Int32)) = (0 : Int32)
              · refine own_step (f' := (mkF m 113 #[.val (.int i1), .val (.int i2), .val (.int i3), .val (.int v3_2_s0), .val (.int v15_4_s0), .val (.int v29_6_s0), .val (.int v40_8_s0), .val .null, .unset, .unset, .unset, .unset, .unset, .unset, .unset] [(.ref b1018), (.ref b1017), (.ref b1017)])) (fun _ k => XS.ifYes X1019.here hx rfl (pc0 := 106) (pc' := 113) rfl (hb hby at_106) rfl ((if0 _ _).trans (teq hc106_1020).1) (by decide) (by decide) k) ?_
                refine own_step (f' := (mkF m 114 #[.val (.int i1), .val (.int i2), .val (.int i3), .val (.int v3_2_s0), .val (.int v15_4_s0), .val (.int v29_6_s0), .val (.int v40_8_s0), .val .null, .unset, .unset, .unset, .unset, .unset, .unset, .unset] [(.int (0 : Int32)), (.ref b1018), (.ref b1017), (.ref b1017)])) (fun _ k => XS.iconst X1019.here hx rfl (hb hby at_113) k) ?_
                exact J106_1021 _ (0 : Int32) X1019 rfl (by rw [if_pos hc106_1020])
              · refine own_step (f' := (mkF m 109 #[.val (.int i1), .val (.int i2), .val (.int i3), .val (.int v3_2_s0), .val (.int v15_4_s0), .val (.int v29_6_s0), .val (.int v40_8_s0), .val .null, .unset, .unset, .unset, .unset, .unset, .unset, .unset] [(.ref b1018), (.ref b1017), (.ref b1017)])) (fun _ k => XS.ifNo X1019.here hx rfl (hb hby at_106) rfl ((if0 _ _).trans (feq hc106_1020).1) k) ?_
                refine own_step (f' := (mkF m 110 #[.val (.int i1), .val (.int i2), .val (.int i3), .val (.int v3_2_s0), .val (.int v15_4_s0), .val (.int v29_6_s0), .val (.int v40_8_s0), .val .null, .unset, .unset, .unset, .unset, .unset, .unset, .unset] [(.int (1 : Int32)), (.ref b1018), (.ref b1017), (.ref b1017)])) (fun _ k => XS.iconst X1019.here hx rfl (hb hby at_109) k) ?_
                refine own_step (f' := (mkF m 114 #[.val (.int i1), .val (.int i2), .val (.int i3), .val (.int v3_2_s0), .val (.int v15_4_s0), .val (.int v29_6_s0), .val (.int v40_8_s0), .val .null, .unset, .unset, .unset, .unset, .unset, .unset, .unset] [(.int (1 : Int32)), (.ref b1018), (.ref b1017), (.ref b1017)])) (fun _ k => XS.goto X1019.here hx rfl (pc0 := 110) (pc' := 114) rfl (hb hby at_110) (by decide) (by decide) k) ?_
                exact J106_1021 _ (1 : Int32) X1019 rfl (by rw [if_neg hc106_1020])
          · refine own_step (f' := (mkF m 55 #[.val (.int i1), .val (.int i2), .val (.int i3), .val (.int v3_2_s0), .val (.int v15_4_s0), .val (.int v29_6_s0), .val (.int v40_8_s0), .unset, .unset, .unset, .unset, .unset, .unset, .unset, .unset] [])) (fun _ k => XS.ifNo X40_8.here hx rfl (hb hby at_52) rfl ((if0 _ _).trans (feq hc52_9).1) k) ?_
            obtain ⟨T2021, h2021, X2021, e2021, E2021, A2021, D2021, -, st2021⟩ := newO X40_8 hx hZ hown (hw _ (List.mem_of_getElem? (i := 0) rfl)) (hw _ (List.mem_of_getElem? (i := 1) rfl)) (hw _ (List.mem_of_getElem? (i := 2) rfl)) e40_8 (g := (mkF m 55 #[.val (.int i1), .val (.int i2), .val (.int i3), .val (.int v3_2_s0), .val (.int v15_4_s0), .val (.int v29_6_s0), .val (.int v40_8_s0), .unset, .unset, .unset, .unset, .unset, .unset, .unset, .unset] [])) rfl (hb hby at_55) (by decide) (by decide)
            obtain ⟨b2021, g2021⟩ : ∃ z, z = h0.size := ⟨_, rfl⟩
            rw [← g2021] at A2021 D2021 st2021
            have g_b2021 : n0 ≤ b2021 := Nat.le_trans Z0 (Nat.le_of_eq g2021.symm)
            have F_steps_b2021 : Fld Z h2021 b2021 "wayfarer/process/RepeatStep$Condition" "steps" "Ljava/util/List;" .null := D2021 (Or.inr (hw _ (List.mem_of_getElem? (i := 39) rfl))) (ty := (.object "java/util/List")) (by decide)
            have F_ahead_b2021 : Fld Z h2021 b2021 "wayfarer/process/RepeatStep$Condition" "ahead" "Z" (.int (0 : Int32)) := D2021 (Or.inr (hw _ (List.mem_of_getElem? (i := 41) rfl))) (ty := .boolean) (by decide)
            refine own_step (f' := (mkF m 58 #[.val (.int i1), .val (.int i2), .val (.int i3), .val (.int v3_2_s0), .val (.int v15_4_s0), .val (.int v29_6_s0), .val (.int v40_8_s0), .unset, .unset, .unset, .unset, .unset, .unset, .unset, .unset] [(.ref b2021)])) st2021 ?_
            refine own_step (f' := (mkF m 59 #[.val (.int i1), .val (.int i2), .val (.int i3), .val (.int v3_2_s0), .val (.int v15_4_s0), .val (.int v29_6_s0), .val (.int v40_8_s0), .unset, .unset, .unset, .unset, .unset, .unset, .unset, .unset] [(.ref b2021), (.ref b2021)])) (fun _ k => XS.dup X2021.here hx rfl (hb hby at_58) rfl rfl k) ?_
            obtain ⟨T2022, h2022, X2022, e2022, E2022, A2022, D2022, -, st2022⟩ := newO X2021 hx hZ hown (hw _ (List.mem_of_getElem? (i := 3) rfl)) (hw _ (List.mem_of_getElem? (i := 4) rfl)) (hw _ (List.mem_of_getElem? (i := 5) rfl)) e2021 (g := (mkF m 59 #[.val (.int i1), .val (.int i2), .val (.int i3), .val (.int v3_2_s0), .val (.int v15_4_s0), .val (.int v29_6_s0), .val (.int v40_8_s0), .unset, .unset, .unset, .unset, .unset, .unset, .unset, .unset] [(.ref b2021), (.ref b2021)])) rfl (hb hby at_59) (by decide) (by decide)
            obtain ⟨b2022, g2022⟩ : ∃ z, z = h2021.size := ⟨_, rfl⟩
            rw [← g2022] at A2022 D2022 st2022
            have ne_b2021_b2022 : b2021 ≠ b2022 := Nat.ne_of_lt (Nat.lt_of_lt_of_le A2021.lt (Nat.le_of_eq g2022.symm))
            have g_b2022 : n0 ≤ b2022 := Nat.le_trans (Nat.le_trans Z0 E2021.1) (Nat.le_of_eq g2022.symm)
            have F_modCount_b2022 : Fld Z h2022 b2022 "java/util/AbstractList" "modCount" "I" (.int (0 : Int32)) := D2022 (Or.inl (hw _ (List.mem_of_getElem? (i := 25) rfl))) (ty := .int) (by decide)
            have F_elementData_b2022 : Fld Z h2022 b2022 "java/util/ArrayList" "elementData" "[Ljava/lang/Object;" .null := D2022 (Or.inl (hw _ (List.mem_of_getElem? (i := 28) rfl))) (ty := (.array (.object "java/lang/Object"))) (by decide)
            refine own_step (f' := (mkF m 62 #[.val (.int i1), .val (.int i2), .val (.int i3), .val (.int v3_2_s0), .val (.int v15_4_s0), .val (.int v29_6_s0), .val (.int v40_8_s0), .unset, .unset, .unset, .unset, .unset, .unset, .unset, .unset] [(.ref b2022), (.ref b2021), (.ref b2021)])) st2022 ?_
            refine own_step (f' := (mkF m 63 #[.val (.int i1), .val (.int i2), .val (.int i3), .val (.int v3_2_s0), .val (.int v15_4_s0), .val (.int v29_6_s0), .val (.int v40_8_s0), .unset, .unset, .unset, .unset, .unset, .unset, .unset, .unset] [(.ref b2022), (.ref b2022), (.ref b2021), (.ref b2021)])) (fun _ k => XS.dup X2022.here hx rfl (hb hby at_62) rfl rfl k) ?_
            have Zq2023 : n0 ≤ h2022.size := (Nat.le_trans (Nat.le_trans Z0 E2021.1) E2022.1)
            obtain ⟨_, _, ⟨T2023, L2023, k2023, n2023⟩, -, X2023, ⟨Lc2023, hQ2023, l2023, y2023, z2023⟩, st2023⟩ := X2022.specialBack hx (y := (⟨"java/util/ArrayList", "<init>", "()V"⟩ : MethodName)) rfl hown (mvT hZ (hw _ (List.mem_of_getElem? (i := 6) rfl))) (mvT hZ (hw _ (List.mem_of_getElem? (i := 7) rfl))) (mvT hZ (hw _ (List.mem_of_getElem? (i := 8) rfl))) (by decide) (backOf (W := 3) (rm1 l Z a0 hw [] b2022 (.int (0 : Int32)) .null w1 h2022 n0 Zq2023 A2022 F_modCount_b2022 g_b2022 ((S_DEFAULTCAPACITY_EMPTY_ELEMENTDATA.ext E2021).ext E2022) F_elementData_b2022) hZ (hw _ (List.mem_of_getElem? (i := 8) rfl)) (hw _ (List.mem_of_getElem? (i := 5) rfl)) (by decide) (by decide)) (g := (mkF m 63 #[.val (.int i1), .val (.int i2), .val (.int i3), .val (.int v3_2_s0), .val (.int v15_4_s0), .val (.int v29_6_s0), .val (.int v40_8_s0), .unset, .unset, .unset, .unset, .unset, .unset, .unset, .unset] [(.ref b2022), (.ref b2022), (.ref b2021), (.ref b2021)])) rfl (by rw [hml]; rfl) (Steps.refl _) (a := b2022) (argsL := []) (rest := [(.ref b2022), (.ref b2021), (.ref b2021)]) (lenOf pd_0 rfl) rfl (by show 2 * 0 + _ ≤ _; exact Nat.le_of_eq rfl) (hb hby at_63) (fun _ _ => ⟨rfl, e2022, (by decide : 2 + 0 ≤ _), (by decide : 5 + 0 ≤ _)⟩)
            dsimp only [Pt.U, Pt.locs, Pt.cells, Pt.slots] at X2023 l2023 y2023 z2023 st2023 hQ2023
            subst l2023 y2023 z2023
            obtain ⟨rfl, Nq2023, K2023, P2023_0, P2023_1, P2023_2⟩ := hQ2023
            obtain ⟨Lo2023, X2023, N2023⟩ : ∃ K, Stand p l e room_1 s m #[(.int i1), (.int i2), (.int i3)] below meth c T2023 K 2 5 ∧ Fr n0 K := ⟨_, X2023, (Fr.app N0 Nq2023)⟩
            refine own_jump (f' := (mkF m 66 #[.val (.int i1), .val (.int i2), .val (.int i3), .val (.int v3_2_s0), .val (.int v15_4_s0), .val (.int v29_6_s0), .val (.int v40_8_s0), .unset, .unset, .unset, .unset, .unset, .unset, .unset, .unset] [(.ref b2022), (.ref b2021), (.ref b2021)])) st2023 ?_
            refine own_step (f' := (mkF m 67 #[.val (.int i1), .val (.int i2), .val (.int i3), .val (.int v3_2_s0), .val (.int v15_4_s0), .val (.int v29_6_s0), .val (.int v40_8_s0), .unset, .unset, .unset, .unset, .unset, .unset, .unset, .unset] [(.int i2), (.ref b2022), (.ref b2021), (.ref b2021)])) (fun _ k => XS.iloadN X2023.here hx rfl (hb hby at_66) rfl k) ?_
            refine own_step (f' := (mkF m 68 #[.val (.int i1), .val (.int i2), .val (.int i3), .val (.int v3_2_s0), .val (.int v15_4_s0), .val (.int v29_6_s0), .val (.int v40_8_s0), .unset, .unset, .unset, .unset, .unset, .unset, .unset, .unset] [(.int (4 : Int32)), (.int i2), (.ref b2022), (.ref b2021), (.ref b2021)])) (fun _ k => XS.iconst X2023.here hx rfl (hb hby at_67) k) ?_
            refine own_step (f' := (mkF m 69 #[.val (.int i1), .val (.int i2), .val (.int i3), .val (.int v3_2_s0), .val (.int v15_4_s0), .val (.int v29_6_s0), .val (.int v40_8_s0), .unset, .unset, .unset, .unset, .unset, .unset, .unset, .unset] [(.int (i2 &&& (4 : Int32))), (.ref b2022), (.ref b2021), (.ref b2021)])) (fun _ k => XS.iand X2023.here hx rfl (hb hby at_68) rfl k) ?_
            have J69_2025 : ∀ (T69_2025 : State) (v69_2025_s0 : Int32), Stand p l e room_1 s m #[(.int i1), (.int i2), (.int i3)] below meth c T69_2025 Lo2023 2 5 → T69_2025.heap = T2023.heap → v69_2025_s0 = (if (i2 &&& (4 : Int32)) = (0 : Int32) then (0 : Int32) else (1 : Int32)) → own_Goes p e below s (Q0 Z i1 i2 i3 w1 h0 n0) room_1.cells room_1.slots T69_2025 (mkF m 77 #[.val (.int i1), .val (.int i2), .val (.int i3), .val (.int v3_2_s0), .val (.int v15_4_s0), .val (.int v29_6_s0), .val (.int v40_8_s0), .unset, .unset, .unset, .unset, .unset, .unset, .unset, .unset] [(.int v69_2025_s0), (.ref b2022), (.ref b2021), (.ref b2021)]) := by
              intro T69_2025 v69_2025_s0 X69_2025 e69_2025 hv69_2025_0
              have Zq2026 : n0 ≤ T2023.heap.size := (Nat.le_trans (Nat.le_trans (Nat.le_trans Z0 E2021.1) E2022.1) K2023.1)
              obtain ⟨_, _, ⟨T2026, L2026, k2026, n2026⟩, -, X2026, ⟨Lc2026, hQ2026, l2026, y2026, z2026⟩, st2026⟩ := X69_2025.specialBack hx (y := (⟨"wayfarer/process/RepeatStep$Condition", "<init>", "(Ljava/util/List;Z)V"⟩ : MethodName)) rfl hown (mvT hZ (hw _ (List.mem_of_getElem? (i := 29) rfl))) (mvT hZ (hw _ (List.mem_of_getElem? (i := 30) rfl))) (mvT hZ (hw _ (List.mem_of_getElem? (i := 31) rfl))) (by decide) (backOf (W := 1) (rm5 l Z a0 hw [] b2021 b2022 v69_2025_s0 .null (.int (0 : Int32)) T2023.heap n0 Zq2026 ((A2021.ext E2022).keep K2023) ((F_steps_b2021.ext E2022).keep K2023 (ninS ne_b2021_b2022 nin0)) ((F_ahead_b2021.ext E2022).keep K2023 (ninS ne_b2021_b2022 nin0)) g_b2021) hZ (hw _ (List.mem_of_getElem? (i := 31) rfl)) (hw _ (List.mem_of_getElem? (i := 2) rfl)) (by decide) (by decide)) (g := (mkF m 77 #[.val (.int i1), .val (.int i2), .val (.int i3), .val (.int v3_2_s0), .val (.int v15_4_s0), .val (.int v29_6_s0), .val (.int v40_8_s0), .unset, .unset, .unset, .unset, .unset, .unset, .unset, .unset] [(.int v69_2025_s0), (.ref b2022), (.ref b2021), (.ref b2021)])) rfl (by rw [hml]; rfl) (Steps.refl _) (a := b2021) (argsL := [(.ref b2022), (.int v69_2025_s0)]) (rest := [(.ref b2021)]) (lenOf pd_4 rfl) rfl (by show 2 * 0 + _ ≤ _; exact Nat.le_of_eq rfl) (hb hby at_77) (fun _ _ => ⟨rfl, e69_2025, (by decide : 2 + 0 ≤ _), (by decide : 5 + 0 ≤ _)⟩)
              dsimp only [Pt.U, Pt.locs, Pt.cells, Pt.slots] at X2026 l2026 y2026 z2026 st2026 hQ2026
              subst l2026 y2026 z2026
              obtain ⟨rfl, Nq2026, K2026, P2026_0⟩ := hQ2026
              obtain ⟨Lo2026, X2026, N2026⟩ : ∃ K, Stand p l e room_1 s m #[(.int i1), (.int i2), (.int i3)] below meth c T2026 K 2 5 ∧ Fr n0 K := ⟨_, X2026, (Fr.app N2023 Nq2026)⟩
              refine own_jump (f' := (mkF m 80 #[.val (.int i1), .val (.int i2), .val (.int i3), .val (.int v3_2_s0), .val (.int v15_4_s0), .val (.int v29_6_s0), .val (.int v40_8_s0), .unset, .unset, .unset, .unset, .unset, .unset, .unset, .unset] [(.ref b2021)])) st2026 ?_
              refine own_step (f' := (mkF m 84 #[.val (.int i1), .val (.int i2), .val (.int i3), .val (.int v3_2_s0), .val (.int v15_4_s0), .val (.int v29_6_s0), .val (.int v40_8_s0), .unset, .unset, .unset, .unset, .unset, .unset, .unset, .unset] [(.ref b2021)])) (fun _ k => XS.goto X2026.here hx rfl (pc0 := 80) (pc' := 84) rfl (hb hby at_80) (by decide) (by decide) k) ?_
              refine own_step (f' := (mkF m 86 #[.val (.int i1), .val (.int i2), .val (.int i3), .val (.int v3_2_s0), .val (.int v15_4_s0), .val (.int v29_6_s0), .val (.int v40_8_s0), .val (.ref b2021), .unset, .unset, .unset, .unset, .unset, .unset, .unset] [])) (fun _ k => XS.astore X2026.here hx rfl (hb hby at_84) rfl rfl (l' := #[.val (.int i1), .val (.int i2), .val (.int i3), .val (.int v3_2_s0), .val (.int v15_4_s0), .val (.int v29_6_s0), .val (.int v40_8_s0), .val (.ref b2021), .unset, .unset, .unset, .unset, .unset, .unset, .unset]) rfl k) ?_
              refine own_step (f' := (mkF m 88 #[.val (.int i1), .val (.int i2), .val (.int i3), .val (.int v3_2_s0), .val (.int v15_4_s0), .val (.int v29_6_s0), .val (.int v40_8_s0), .val (.ref b2021), .unset, .unset, .unset, .unset, .unset, .unset, .unset] [(.int v29_6_s0)])) (fun _ k => XS.iload X2026.here hx rfl (hb hby at_86) rfl k) ?_
              by_cases hc88_2027 : v29_6_s0 = (0 : Int32)
              · refine own_step (f' := (mkF m 120 #[.val (.int i1), .val (.int i2), .val (.int i3), .val (.int v3_2_s0), .val (.int v15_4_s0), .val (.int v29_6_s0), .val (.int v40_8_s0), .val (.ref b2021), .unset, .unset, .unset, .unset, .unset, .unset, .unset] [])) (fun _ k => XS.ifYes X2026.here hx rfl (pc0 := 88) (pc' := 120) rfl (hb hby at_88) rfl ((if0 _ _).trans (teq hc88_2027).1) (by decide) (by decide) k) ?_
                refine own_step (f' := (mkF m 121 #[.val (.int i1), .val (.int i2), .val (.int i3), .val (.int v3_2_s0), .val (.int v15_4_s0), .val (.int v29_6_s0), .val (.int v40_8_s0), .val (.ref b2021), .unset, .unset, .unset, .unset, .unset, .unset, .unset] [.null])) (fun _ k => XS.aconstNull X2026.here hx rfl (hb hby at_120) k) ?_
                refine own_step (f' := (mkF m 123 #[.val (.int i1), .val (.int i2), .val (.int i3), .val (.int v3_2_s0), .val (.int v15_4_s0), .val (.int v29_6_s0), .val (.int v40_8_s0), .val (.ref b2021), .val .null, .unset, .unset, .unset, .unset, .unset, .unset] [])) (fun _ k => XS.astore X2026.here hx rfl (hb hby at_121) rfl rfl (l' := #[.val (.int i1), .val (.int i2), .val (.int i3), .val (.int v3_2_s0), .val (.int v15_4_s0), .val (.int v29_6_s0), .val (.int v40_8_s0), .val (.ref b2021), .val .null, .unset, .unset, .unset, .unset, .unset, .unset]) rfl k) ?_
                obtain ⟨T2028, h2028, X2028, e2028, E2028, A2028, D2028, -, st2028⟩ := newO X2026 hx hZ hown (hw _ (List.mem_of_getElem? (i := 42) rfl)) (hw _ (List.mem_of_getElem? (i := 43) rfl)) (hw _ (List.mem_of_getElem? (i := 44) rfl)) rfl (g := (mkF m 123 #[.val (.int i1), .val (.int i2), .val (.int i3), .val (.int v3_2_s0), .val (.int v15_4_s0), .val (.int v29_6_s0), .val (.int v40_8_s0), .val (.ref b2021), .val .null, .unset, .unset, .unset, .unset, .unset, .unset] [])) rfl (hb hby at_123) (by decide) (by decide)
                obtain ⟨b2028, g2028⟩ : ∃ z, z = T2026.heap.size := ⟨_, rfl⟩
                rw [← g2028] at A2028 D2028 st2028
                have ne_b2021_b2028 : b2021 ≠ b2028 := Nat.ne_of_lt (Nat.lt_of_lt_of_le P2026_0.lt (Nat.le_of_eq g2028.symm))
                have ne_b2022_b2028 : b2022 ≠ b2028 := Nat.ne_of_lt (Nat.lt_of_lt_of_le (P2023_0.keep K2026).lt (Nat.le_of_eq g2028.symm))
                have g_b2028 : n0 ≤ b2028 := Nat.le_trans (Nat.le_trans (Nat.le_trans (Nat.le_trans (Nat.le_trans Z0 E2021.1) E2022.1) K2023.1) K2026.1) (Nat.le_of_eq g2028.symm)
                have F_body_b2028 : Fld Z h2028 b2028 "wayfarer/process/RepeatStep" "body" "Ljava/util/List;" .null := D2028 (Or.inr (hw _ (List.mem_of_getElem? (i := 50) rfl))) (ty := (.object "java/util/List")) (by decide)
                have F_times_b2028 : Fld Z h2028 b2028 "wayfarer/process/RepeatStep" "times" "I" (.int (0 : Int32)) := D2028 (Or.inr (hw _ (List.mem_of_getElem? (i := 52) rfl))) (ty := .int) (by decide)
                have F_until_b2028 : Fld Z h2028 b2028 "wayfarer/process/RepeatStep" "until" "Lwayfarer/process/RepeatStep$Condition;" .null := D2028 (Or.inr (hw _ (List.mem_of_getElem? (i := 54) rfl))) (ty := (.object "wayfarer/process/RepeatStep$Condition")) (by decide)
                have F_emit_b2028 : Fld Z h2028 b2028 "wayfarer/process/RepeatStep" "emit" "Lwayfarer/process/RepeatStep$Condition;" .null := D2028 (Or.inr (hw _ (List.mem_of_getElem? (i := 56) rfl))) (ty := (.object "wayfarer/process/RepeatStep$Condition")) (by decide)
                refine own_step (f' := (mkF m 126 #[.val (.int i1), .val (.int i2), .val (.int i3), .val (.int v3_2_s0), .val (.int v15_4_s0), .val (.int v29_6_s0), .val (.int v40_8_s0), .val (.ref b2021), .val .null, .unset, .unset, .unset, .unset, .unset, .unset] [(.ref b2028)])) st2028 ?_
                refine own_step (f' := (mkF m 127 #[.val (.int i1), .val (.int i2), .val (.int i3), .val (.int v3_2_s0), .val (.int v15_4_s0), .val (.int v29_6_s0), .val (.int v40_8_s0), .val (.ref b2021), .val .null, .unset, .unset, .unset, .unset, .unset, .unset] [(.ref b2028), (.ref b2028)])) (fun _ k => XS.dup X2028.here hx rfl (hb hby at_126) rfl rfl k) ?_
                obtain ⟨T2029, h2029, X2029, e2029, E2029, A2029, D2029, -, st2029⟩ := newO X2028 hx hZ hown (hw _ (List.mem_of_getElem? (i := 3) rfl)) (hw _ (List.mem_of_getElem? (i := 4) rfl)) (hw _ (List.mem_of_getElem? (i := 5) rfl)) e2028 (g := (mkF m 127 #[.val (.int i1), .val (.int i2), .val (.int i3), .val (.int v3_2_s0), .val (.int v15_4_s0), .val (.int v29_6_s0), .val (.int v40_8_s0), .val (.ref b2021), .val .null, .unset, .unset, .unset, .unset, .unset, .unset] [(.ref b2028), (.ref b2028)])) rfl (hb hby at_127) (by decide) (by decide)
                obtain ⟨b2029, g2029⟩ : ∃ z, z = h2028.size := ⟨_, rfl⟩
                rw [← g2029] at A2029 D2029 st2029
                have ne_b2021_b2029 : b2021 ≠ b2029 := Nat.ne_of_lt (Nat.lt_of_lt_of_le (P2026_0.ext E2028).lt (Nat.le_of_eq g2029.symm))
                have ne_b2022_b2029 : b2022 ≠ b2029 := Nat.ne_of_lt (Nat.lt_of_lt_of_le ((P2023_0.keep K2026).ext E2028).lt (Nat.le_of_eq g2029.symm))
                have ne_b2028_b2029 : b2028 ≠ b2029 := Nat.ne_of_lt (Nat.lt_of_lt_of_le A2028.lt (Nat.le_of_eq g2029.symm))
                have g_b2029 : n0 ≤ b2029 := Nat.le_trans (Nat.le_trans (Nat.le_trans (Nat.le_trans (Nat.le_trans (Nat.le_trans Z0 E2021.1) E2022.1) K2023.1) K2026.1) E2028.1) (Nat.le_of_eq g2029.symm)
                have F_modCount_b2029 : Fld Z h2029 b2029 "java/util/AbstractList" "modCount" "I" (.int (0 : Int32)) := D2029 (Or.inl (hw _ (List.mem_of_getElem? (i := 25) rfl))) (ty := .int) (by decide)
                have F_elementData_b2029 : Fld Z h2029 b2029 "java/util/ArrayList" "elementData" "[Ljava/lang/Object;" .null := D2029 (Or.inl (hw _ (List.mem_of_getElem? (i := 28) rfl))) (ty := (.array (.object "java/lang/Object"))) (by decide)
                refine own_step (f' := (mkF m 130 #[.val (.int i1), .val (.int i2), .val (.int i3), .val (.int v3_2_s0), .val (.int v15_4_s0), .val (.int v29_6_s0), .val (.int v40_8_s0), .val (.ref b2021), .val .null, .unset, .unset, .unset, .unset, .unset, .unset] [(.ref b2029), (.ref b2028), (.ref b2028)])) st2029 ?_
                refine own_step (f' := (mkF m 131 #[.val (.int i1), .val (.int i2), .val (.int i3), .val (.int v3_2_s0), .val (.int v15_4_s0), .val (.int v29_6_s0), .val (.int v40_8_s0), .val (.ref b2021), .val .null, .unset, .unset, .unset, .unset, .unset, .unset] [(.ref b2029), (.ref b2029), (.ref b2028), (.ref b2028)])) (fun _ k => XS.dup X2029.here hx rfl (hb hby at_130) rfl rfl k) ?_
                have Zq2030 : n0 ≤ h2029.size := (Nat.le_trans (Nat.le_trans (Nat.le_trans (Nat.le_trans (Nat.le_trans (Nat.le_trans Z0 E2021.1) E2022.1) K2023.1) K2026.1) E2028.1) E2029.1)
                obtain ⟨_, _, ⟨T2030, L2030, k2030, n2030⟩, -, X2030, ⟨Lc2030, hQ2030, l2030, y2030, z2030⟩, st2030⟩ := X2029.specialBack hx (y := (⟨"java/util/ArrayList", "<init>", "()V"⟩ : MethodName)) rfl hown (mvT hZ (hw _ (List.mem_of_getElem? (i := 6) rfl))) (mvT hZ (hw _ (List.mem_of_getElem? (i := 7) rfl))) (mvT hZ (hw _ (List.mem_of_getElem? (i := 8) rfl))) (by decide) (backOf (W := 3) (rm1 l Z a0 hw [] b2029 (.int (0 : Int32)) .null w1 h2029 n0 Zq2030 A2029 F_modCount_b2029 g_b2029 (((own_staKeep (own_staKeep ((S_DEFAULTCAPACITY_EMPTY_ELEMENTDATA.ext E2021).ext E2022) K2023 (allS (own_exaNS A2022) all0)) K2026 (allS (own_exaNS ((A2021.ext E2022).keep K2023)) all0)).ext E2028).ext E2029) F_elementData_b2029) hZ (hw _ (List.mem_of_getElem? (i := 8) rfl)) (hw _ (List.mem_of_getElem? (i := 5) rfl)) (by decide) (by decide)) (g := (mkF m 131 #[.val (.int i1), .val (.int i2), .val (.int i3), .val (.int v3_2_s0), .val (.int v15_4_s0), .val (.int v29_6_s0), .val (.int v40_8_s0), .val (.ref b2021), .val .null, .unset, .unset, .unset, .unset, .unset, .unset] [(.ref b2029), (.ref b2029), (.ref b2028), (.ref b2028)])) rfl (by rw [hml]; rfl) (Steps.refl _) (a := b2029) (argsL := []) (rest := [(.ref b2029), (.ref b2028), (.ref b2028)]) (lenOf pd_0 rfl) rfl (by show 2 * 0 + _ ≤ _; exact Nat.le_of_eq rfl) (hb hby at_131) (fun _ _ => ⟨rfl, e2029, (by decide : 4 + 0 ≤ _), (by decide : 12 + 0 ≤ _)⟩)
                dsimp only [Pt.U, Pt.locs, Pt.cells, Pt.slots] at X2030 l2030 y2030 z2030 st2030 hQ2030
                subst l2030 y2030 z2030
                obtain ⟨rfl, Nq2030, K2030, P2030_0, P2030_1, P2030_2⟩ := hQ2030
                obtain ⟨Lo2030, X2030, N2030⟩ : ∃ K, Stand p l e room_1 s m #[(.int i1), (.int i2), (.int i3)] below meth c T2030 K 4 12 ∧ Fr n0 K := ⟨_, X2030, (Fr.app N2026 Nq2030)⟩
                refine own_jump (f' := (mkF m 134 #[.val (.int i1), .val (.int i2), .val (.int i3), .val (.int v3_2_s0), .val (.int v15_4_s0), .val (.int v29_6_s0), .val (.int v40_8_s0), .val (.ref b2021), .val .null, .unset, .unset, .unset, .unset, .unset, .unset] [(.ref b2029), (.ref b2028), (.ref b2028)])) st2030 ?_
                refine own_step (f' := (mkF m 136 #[.val (.int i1), .val (.int i2), .val (.int i3), .val (.int v3_2_s0), .val (.int v15_4_s0), .val (.int v29_6_s0), .val (.int v40_8_s0), .val (.ref b2021), .val .null, .unset, .unset, .unset, .unset, .unset, .unset] [(.int v40_8_s0), (.ref b2029), (.ref b2028), (.ref b2028)])) (fun _ k => XS.iload X2030.here hx rfl (hb hby at_134) rfl k) ?_
                refine own_step (f' := (mkF m 138 #[.val (.int i1), .val (.int i2), .val (.int i3), .val (.int v3_2_s0), .val (.int v15_4_s0), .val (.int v29_6_s0), .val (.int v40_8_s0), .val (.ref b2021), .val .null, .unset, .unset, .unset, .unset, .unset, .unset] [(.ref b2021), (.int v40_8_s0), (.ref b2029), (.ref b2028), (.ref b2028)])) (fun _ k => XS.aload X2030.here hx rfl (hb hby at_136) rfl rfl k) ?_
                refine own_step (f' := (mkF m 140 #[.val (.int i1), .val (.int i2), .val (.int i3), .val (.int v3_2_s0), .val (.int v15_4_s0), .val (.int v29_6_s0), .val (.int v40_8_s0), .val (.ref b2021), .val .null, .unset, .unset, .unset, .unset, .unset, .unset] [.null, (.ref b2021), (.int v40_8_s0), (.ref b2029), (.ref b2028), (.ref b2028)])) (fun _ k => XS.aload X2030.here hx rfl (hb hby at_138) rfl rfl k) ?_
                have Zq2031 : n0 ≤ T2030.heap.size := (Nat.le_trans (Nat.le_trans (Nat.le_trans (Nat.le_trans (Nat.le_trans (Nat.le_trans (Nat.le_trans Z0 E2021.1) E2022.1) K2023.1) K2026.1) E2028.1) E2029.1) K2030.1)
                obtain ⟨_, _, ⟨T2031, L2031, k2031, n2031⟩, -, X2031, ⟨Lc2031, hQ2031, l2031, y2031, z2031⟩, st2031⟩ := X2030.specialBack hx (y := (⟨"wayfarer/process/RepeatStep", "<init>", "(Ljava/util/List;ILwayfarer/process/RepeatStep$Condition;Lwayfarer/process/RepeatStep$Condition;)V"⟩ : MethodName)) rfl hown (mvT hZ (hw _ (List.mem_of_getElem? (i := 45) rfl))) (mvT hZ (hw _ (List.mem_of_getElem? (i := 46) rfl))) (mvT hZ (hw _ (List.mem_of_getElem? (i := 47) rfl))) (by decide) (backOf (W := 1) (rm7rn l Z a0 hw [] b2028 b2029 v40_8_s0 b2021 .null (.int (0 : Int32)) .null .null T2030.heap n0 Zq2031 ((A2028.ext E2029).keep K2030) ((F_body_b2028.ext E2029).keep K2030 (ninS ne_b2028_b2029 nin0)) ((F_times_b2028.ext E2029).keep K2030 (ninS ne_b2028_b2029 nin0)) ((F_until_b2028.ext E2029).keep K2030 (ninS ne_b2028_b2029 nin0)) ((F_emit_b2028.ext E2029).keep K2030 (ninS ne_b2028_b2029 nin0)) g_b2028) hZ (hw _ (List.mem_of_getElem? (i := 47) rfl)) (hw _ (List.mem_of_getElem? (i := 44) rfl)) (by decide) (by decide)) (g := (mkF m 140 #[.val (.int i1), .val (.int i2), .val (.int i3), .val (.int v3_2_s0), .val (.int v15_4_s0), .val (.int v29_6_s0), .val (.int v40_8_s0), .val (.ref b2021), .val .null, .unset, .unset, .unset, .unset, .unset, .unset] [.null, (.ref b2021), (.int v40_8_s0), (.ref b2029), (.ref b2028), (.ref b2028)])) rfl (by rw [hml]; rfl) (Steps.refl _) (a := b2028) (argsL := [(.ref b2029), (.int v40_8_s0), (.ref b2021), .null]) (rest := [(.ref b2028)]) (lenOf pd_2 rfl) rfl (by show 2 * 0 + _ ≤ _; exact Nat.le_of_eq rfl) (hb hby at_140) (fun _ _ => ⟨rfl, rfl, (by decide : 4 + 0 ≤ _), (by decide : 12 + 0 ≤ _)⟩)
                dsimp only [Pt.U, Pt.locs, Pt.cells, Pt.slots] at X2031 l2031 y2031 z2031 st2031 hQ2031
                subst l2031 y2031 z2031
                obtain ⟨rfl, Nq2031, K2031, P2031_0, P2031_1, P2031_2, P2031_3, P2031_4⟩ := hQ2031
                obtain ⟨Lo2031, X2031, N2031⟩ : ∃ K, Stand p l e room_1 s m #[(.int i1), (.int i2), (.int i3)] below meth c T2031 K 4 12 ∧ Fr n0 K := ⟨_, X2031, (Fr.app N2030 Nq2031)⟩
                refine own_jump (f' := (mkF m 143 #[.val (.int i1), .val (.int i2), .val (.int i3), .val (.int v3_2_s0), .val (.int v15_4_s0), .val (.int v29_6_s0), .val (.int v40_8_s0), .val (.ref b2021), .val .null, .unset, .unset, .unset, .unset, .unset, .unset] [(.ref b2028)])) st2031 ?_
                refine own_step (f' := (mkF m 145 #[.val (.int i1), .val (.int i2), .val (.int i3), .val (.int v3_2_s0), .val (.int v15_4_s0), .val (.int v29_6_s0), .val (.int v40_8_s0), .val (.ref b2021), .val .null, .val (.ref b2028), .unset, .unset, .unset, .unset, .unset] [])) (fun _ k => XS.astore X2031.here hx rfl (hb hby at_143) rfl rfl (l' := #[.val (.int i1), .val (.int i2), .val (.int i3), .val (.int v3_2_s0), .val (.int v15_4_s0), .val (.int v29_6_s0), .val (.int v40_8_s0), .val (.ref b2021), .val .null, .val (.ref b2028), .unset, .unset, .unset, .unset, .unset]) rfl k) ?_
                refine own_step (f' := (mkF m 147 #[.val (.int i1), .val (.int i2), .val (.int i3), .val (.int v3_2_s0), .val (.int v15_4_s0), .val (.int v29_6_s0), .val (.int v40_8_s0), .val (.ref b2021), .val .null, .val (.ref b2028), .unset, .unset, .unset, .unset, .unset] [(.int v40_8_s0)])) (fun _ k => XS.iload X2031.here hx rfl (hb hby at_145) rfl k) ?_
                refine own_step (f' := (mkF m 148 #[.val (.int i1), .val (.int i2), .val (.int i3), .val (.int v3_2_s0), .val (.int v15_4_s0), .val (.int v29_6_s0), .val (.int v40_8_s0), .val (.ref b2021), .val .null, .val (.ref b2028), .unset, .unset, .unset, .unset, .unset] [(.int (-1 : Int32)), (.int v40_8_s0)])) (fun _ k => XS.iconst X2031.here hx rfl (hb hby at_147) k) ?_
                have J148_2034 : ∀ (T148_2034 : State) (v148_2034_s0 : Int32), Stand p l e room_1 s m #[(.int i1), (.int i2), (.int i3)] below meth c T148_2034 Lo2031 4 12 → T148_2034.heap = T2031.heap → v148_2034_s0 = (if v40_8_s0 = (-1 : Int32) then (if v15_4_s0 = (0 : Int32) then (0 : Int32) else (1 : Int32)) else (1 : Int32)) → own_Goes p e below s (Q0 Z i1 i2 i3 w1 h0 n0) room_1.cells room_1.slots T148_2034 (mkF m 161 #[.val (.int i1), .val (.int i2), .val (.int i3), .val (.int v3_2_s0), .val (.int v15_4_s0), .val (.int v29_6_s0), .val (.int v40_8_s0), .val (.ref b2021), .val .null, .val (.ref b2028), .unset, .unset, .unset, .unset, .unset] [(.int v148_2034_s0)]) := by
                  intro T148_2034 v148_2034_s0 X148_2034 e148_2034 hv148_2034_0
                  refine own_step (f' := (mkF m 163 #[.val (.int i1), .val (.int i2), .val (.int i3), .val (.int v3_2_s0), .val (.int v15_4_s0), .val (.int v29_6_s0), .val (.int v40_8_s0), .val (.ref b2021), .val .null, .val (.ref b2028), .val (.int v148_2034_s0), .unset, .unset, .unset, .unset] [])) (fun _ k => XS.istore X148_2034.here hx rfl (hb hby at_161) rfl (l' := #[.val (.int i1), .val (.int i2), .val (.int i3), .val (.int v3_2_s0), .val (.int v15_4_s0), .val (.int v29_6_s0), .val (.int v40_8_s0), .val (.ref b2021), .val .null, .val (.ref b2028), .val (.int v148_2034_s0), .unset, .unset, .unset, .unset]) rfl k) ?_
                  refine own_step (f' := (mkF m 165 #[.val (.int i1), .val (.int i2), .val (.int i3), .val (.int v3_2_s0), .val (.int v15_4_s0), .val (.int v29_6_s0), .val (.int v40_8_s0), .val (.ref b2021), .val .null, .val (.ref b2028), .val (.int v148_2034_s0), .unset, .unset, .unset, .unset] [(.ref b2028)])) (fun _ k => XS.aload X148_2034.here hx rfl (hb hby at_163) rfl rfl k) ?_
                  have Zq2035 : n0 ≤ T2031.heap.size := (Nat.le_trans (Nat.le_trans (Nat.le_trans (Nat.le_trans (Nat.le_trans (Nat.le_trans (Nat.le_trans (Nat.le_trans Z0 E2021.1) E2022.1) K2023.1) K2026.1) E2028.1) E2029.1) K2030.1) K2031.1)
                  obtain ⟨cq2035, kq2035, q2035a, q2035b, q2035c⟩ := isOf hZ e148_2034 P2031_0
                  obtain ⟨_, _, ⟨T2035, L2035, k2035, n2035⟩, -, X2035, ⟨Lc2035, hQ2035, l2035, y2035, z2035⟩, st2035⟩ := X148_2034.virtualBack hx (y := (⟨"wayfarer/process/RepeatStep", "stops", "()Z"⟩ : MethodName)) (z := (⟨"wayfarer/process/RepeatStep", "stops", "()Z"⟩ : MethodName)) hown (mvT hZ (hw _ (List.mem_of_getElem? (i := 57) rfl))) (mvT hZ (hw _ (List.mem_of_getElem? (i := 58) rfl))) (notFace_of_selects (args := #[]) (mvT hZ (hw _ (List.mem_of_getElem? (i := 60) rfl)))) (mvT hZ (hw _ (List.mem_of_getElem? (i := 60) rfl))) (mvT hZ (hw _ (List.mem_of_getElem? (i := 59) rfl))) (by decide) (backOf (W := 0) (rm8r l Z a0 hw [] b2028 v40_8_s0 b2021 T2031.heap n0 Zq2035 P2031_2 P2031_3) hZ (hw _ (List.mem_of_getElem? (i := 61) rfl)) (hw _ (List.mem_of_getElem? (i := 44) rfl)) (by decide) (by decide)) q2035a q2035c (g := (mkF m 165 #[.val (.int i1), .val (.int i2), .val (.int i3), .val (.int v3_2_s0), .val (.int v15_4_s0), .val (.int v29_6_s0), .val (.int v40_8_s0), .val (.ref b2021), .val .null, .val (.ref b2028), .val (.int v148_2034_s0), .unset, .unset, .unset, .unset] [(.ref b2028)])) rfl (by rw [hml]; rfl) (Steps.refl _) (argsL := []) (rest := []) (lenOf pd_1 rfl) rfl (by show 2 * 0 + _ ≤ _; exact Nat.le_of_eq rfl) (hb hby at_165) (fun _ _ => ⟨rfl, e148_2034, (by decide : 4 + 0 ≤ _), (by decide : 12 + 0 ≤ _)⟩)
                  dsimp only [Pt.U, Pt.locs, Pt.cells, Pt.slots] at X2035 l2035 y2035 z2035 st2035 hQ2035
                  subst l2035 y2035 z2035
                  obtain ⟨rfl, rfl, e2035⟩ := hQ2035
                  try rw [List.append_nil] at X2035
                  refine own_jump (f' := (mkF m 168 #[.val (.int i1), .val (.int i2), .val (.int i3), .val (.int v3_2_s0), .val (.int v15_4_s0), .val (.int v29_6_s0), .val (.int v40_8_s0), .val (.ref b2021), .val .null, .val (.ref b2028), .val (.int v148_2034_s0), .unset, .unset, .unset, .unset] [(.int (1 : Int32))])) st2035 ?_
                  refine own_step (f' := (mkF m 170 #[.val (.int i1), .val (.int i2), .val (.int i3), .val (.int v3_2_s0), .val (.int v15_4_s0), .val (.int v29_6_s0), .val (.int v40_8_s0), .val (.ref b2021), .val .null, .val (.ref b2028), .val (.int v148_2034_s0), .val (.int (1 : Int32)), .unset, .unset, .unset] [])) (fun _ k => XS.istore X2035.here hx rfl (hb hby at_168) rfl (l' := #[.val (.int i1), .val (.int i2), .val (.int i3), .val (.int v3_2_s0), .val (.int v15_4_s0), .val (.int v29_6_s0), .val (.int v40_8_s0), .val (.ref b2021), .val .null, .val (.ref b2028), .val (.int v148_2034_s0), .val (.int (1 : Int32)), .unset, .unset, .unset]) rfl k) ?_
                  refine own_step (f' := (mkF m 172 #[.val (.int i1), .val (.int i2), .val (.int i3), .val (.int v3_2_s0), .val (.int v15_4_s0), .val (.int v29_6_s0), .val (.int v40_8_s0), .val (.ref b2021), .val .null, .val (.ref b2028), .val (.int v148_2034_s0), .val (.int (1 : Int32)), .unset, .unset, .unset] [(.int (1 : Int32))])) (fun _ k => XS.iload X2035.here hx rfl (hb hby at_170) rfl k) ?_
                  refine own_step (f' := (mkF m 174 #[.val (.int i1), .val (.int i2), .val (.int i3), .val (.int v3_2_s0), .val (.int v15_4_s0), .val (.int v29_6_s0), .val (.int v40_8_s0), .val (.ref b2021), .val .null, .val (.ref b2028), .val (.int v148_2034_s0), .val (.int (1 : Int32)), .unset, .unset, .unset] [(.int v148_2034_s0), (.int (1 : Int32))])) (fun _ k => XS.iload X2035.here hx rfl (hb hby at_172) rfl k) ?_
                  have hf174_2036 : (1 : Int32) = v148_2034_s0 := own_e1 _ _ _ hc52_9 hv148_2034_0
                  refine own_step (f' := (mkF m 179 #[.val (.int i1), .val (.int i2), .val (.int i3), .val (.int v3_2_s0), .val (.int v15_4_s0), .val (.int v29_6_s0), .val (.int v40_8_s0), .val (.ref b2021), .val .null, .val (.ref b2028), .val (.int v148_2034_s0), .val (.int (1 : Int32)), .unset, .unset, .unset] [])) (fun _ k => XS.icmpYes X2035.here hx rfl (pc0 := 174) (pc' := 179) rfl (hb hby at_174) rfl (teq hf174_2036).1 (by decide) (by decide) k) ?_
                  refine own_step (f' := (mkF m 181 #[.val (.int i1), .val (.int i2), .val (.int i3), .val (.int v3_2_s0), .val (.int v15_4_s0), .val (.int v29_6_s0), .val (.int v40_8_s0), .val (.ref b2021), .val .null, .val (.ref b2028), .val (.int v148_2034_s0), .val (.int (1 : Int32)), .unset, .unset, .unset] [(.int (1 : Int32))])) (fun _ k => XS.iload X2035.here hx rfl (hb hby at_179) rfl k) ?_
                  refine own_step (f' := (mkF m 254 #[.val (.int i1), .val (.int i2), .val (.int i3), .val (.int v3_2_s0), .val (.int v15_4_s0), .val (.int v29_6_s0), .val (.int v40_8_s0), .val (.ref b2021), .val .null, .val (.ref b2028), .val (.int v148_2034_s0), .val (.int (1 : Int32)), .unset, .unset, .unset] [])) (fun _ k => XS.ifYes X2035.here hx rfl (pc0 := 181) (pc' := 254) rfl (hb hby at_181) rfl ((if0 _ _).trans (feq (by decide : ¬ ((1 : Int32) = (0 : Int32)))).2) (by decide) (by decide) k) ?_
                  refine own_step (f' := (mkF m 255 #[.val (.int i1), .val (.int i2), .val (.int i3), .val (.int v3_2_s0), .val (.int v15_4_s0), .val (.int v29_6_s0), .val (.int v40_8_s0), .val (.ref b2021), .val .null, .val (.ref b2028), .val (.int v148_2034_s0), .val (.int (1 : Int32)), .unset, .unset, .unset] [(.int (1 : Int32))])) (fun _ k => XS.iconst X2035.here hx rfl (hb hby at_254) k) ?_
                  refine own_out (v := some (.int (1 : Int32))) X2035 hlk (fun h => by rw [Bd.returns] at h; cases h) (fun fs hr => retN X2035 hx (t := .boolean) Bd.returns (by simp) (hb hby at_255) hr) (by decide) (by decide) ?_
                  exact ⟨rfl, N2031⟩
                by_cases hc148_2032 : v40_8_s0 = (-1 : Int32)
                · refine own_step (f' := (mkF m 151 #[.val (.int i1), .val (.int i2), .val (.int i3), .val (.int v3_2_s0), .val (.int v15_4_s0), .val (.int v29_6_s0), .val (.int v40_8_s0), .val (.ref b2021), .val .null, .val (.ref b2028), .unset, .unset, .unset, .unset, .unset] [])) (fun _ k => XS.icmpNo X2031.here hx rfl (hb hby at_148) rfl (teq hc148_2032).2 k) ?_
                  refine own_step (f' := (mkF m 153 #[.val (.int i1), .val (.int i2), .val (.int i3), .val (.int v3_2_s0), .val (.int v15_4_s0), .val (.int v29_6_s0), .val (.int v40_8_s0), .val (.ref b2021), .val .null, .val (.ref b2028), .unset, .unset, .unset, .unset, .unset] [(.int v15_4_s0)])) (fun _ k => XS.iload X2031.here hx rfl (hb hby at_151) rfl k) ?_
                  by_cases hc153_3033 : v15_4_s0 = (0 : Int32)
                  · refine own_step (f' := (mkF m 160 #[.val (.int i1), .val (.int i2), .val (.int i3), .val (.int v3_2_s0), .val (.int v15_4_s0), .val (.int v29_6_s0), .val (.int v40_8_s0), .val (.ref b2021), .val .null, .val (.ref b2028), .unset, .unset, .unset, .unset, .unset] [])) (fun _ k => XS.ifYes X2031.here hx rfl (pc0 := 153) (pc' := 160) rfl (hb hby at_153) rfl ((if0 _ _).trans (teq hc153_3033).1) (by decide) (by decide) k) ?_
                    refine own_step (f' := (mkF m 161 #[.val (.int i1), .val (.int i2), .val (.int i3), .val (.int v3_2_s0), .val (.int v15_4_s0), .val (.int v29_6_s0), .val (.int v40_8_s0), .val (.ref b2021), .val .null, .val (.ref b2028), .unset, .unset, .unset, .unset, .unset] [(.int (0 : Int32))])) (fun _ k => XS.iconst X2031.here hx rfl (hb hby at_160) k) ?_
                    exact J148_2034 _ (0 : Int32) X2031 rfl (by rw [if_pos hc148_2032, if_pos hc153_3033])
                  · refine own_step (f' := (mkF m 156 #[.val (.int i1), .val (.int i2), .val (.int i3), .val (.int v3_2_s0), .val (.int v15_4_s0), .val (.int v29_6_s0), .val (.int v40_8_s0), .val (.ref b2021), .val .null, .val (.ref b2028), .unset, .unset, .unset, .unset, .unset] [])) (fun _ k => XS.ifNo X2031.here hx rfl (hb hby at_153) rfl ((if0 _ _).trans (feq hc153_3033).1) k) ?_
                    refine own_step (f' := (mkF m 157 #[.val (.int i1), .val (.int i2), .val (.int i3), .val (.int v3_2_s0), .val (.int v15_4_s0), .val (.int v29_6_s0), .val (.int v40_8_s0), .val (.ref b2021), .val .null, .val (.ref b2028), .unset, .unset, .unset, .unset, .unset] [(.int (1 : Int32))])) (fun _ k => XS.iconst X2031.here hx rfl (hb hby at_156) k) ?_
                    refine own_step (f' := (mkF m 161 #[.val (.int i1), .val (.int i2), .val (.int i3), .val (.int v3_2_s0), .val (.int v15_4_s0), .val (.int v29_6_s0), .val (.int v40_8_s0), .val (.ref b2021), .val .null, .val (.ref b2028), .unset, .unset, .unset, .unset, .unset] [(.int (1 : Int32))])) (fun _ k => XS.goto X2031.here hx rfl (pc0 := 157) (pc' := 161) rfl (hb hby at_157) (by decide) (by decide) k) ?_
                    exact J148_2034 _ (1 : Int32) X2031 rfl (by rw [if_pos hc148_2032, if_neg hc153_3033])
                · refine own_step (f' := (mkF m 156 #[.val (.int i1), .val (.int i2), .val (.int i3), .val (.int v3_2_s0), .val (.int v15_4_s0), .val (.int v29_6_s0), .val (.int v40_8_s0), .val (.ref b2021), .val .null, .val (.ref b2028), .unset, .unset, .unset, .unset, .unset] [])) (fun _ k => XS.icmpYes X2031.here hx rfl (pc0 := 148) (pc' := 156) rfl (hb hby at_148) rfl (feq hc148_2032).2 (by decide) (by decide) k) ?_
                  refine own_step (f' := (mkF m 157 #[.val (.int i1), .val (.int i2), .val (.int i3), .val (.int v3_2_s0), .val (.int v15_4_s0), .val (.int v29_6_s0), .val (.int v40_8_s0), .val (.ref b2021), .val .null, .val (.ref b2028), .unset, .unset, .unset, .unset, .unset] [(.int (1 : Int32))])) (fun _ k => XS.iconst X2031.here hx rfl (hb hby at_156) k) ?_
                  refine own_step (f' := (mkF m 161 #[.val (.int i1), .val (.int i2), .val (.int i3), .val (.int v3_2_s0), .val (.int v15_4_s0), .val (.int v29_6_s0), .val (.int v40_8_s0), .val (.ref b2021), .val .null, .val (.ref b2028), .unset, .unset, .unset, .unset, .unset] [(.int (1 : Int32))])) (fun _ k => XS.goto X2031.here hx rfl (pc0 := 157) (pc' := 161) rfl (hb hby at_157) (by decide) (by decide) k) ?_
                  exact J148_2034 _ (1 : Int32) X2031 rfl (by rw [if_neg hc148_2032])
              · refine own_step (f' := (mkF m 91 #[.val (.int i1), .val (.int i2), .val (.int i3), .val (.int v3_2_s0), .val (.int v15_4_s0), .val (.int v29_6_s0), .val (.int v40_8_s0), .val (.ref b2021), .unset, .unset, .unset, .unset, .unset, .unset, .unset] [])) (fun _ k => XS.ifNo X2026.here hx rfl (hb hby at_88) rfl ((if0 _ _).trans (feq hc88_2027).1) k) ?_
                obtain ⟨T3034, h3034, X3034, e3034, E3034, A3034, D3034, -, st3034⟩ := newO X2026 hx hZ hown (hw _ (List.mem_of_getElem? (i := 0) rfl)) (hw _ (List.mem_of_getElem? (i := 1) rfl)) (hw _ (List.mem_of_getElem? (i := 2) rfl)) rfl (g := (mkF m 91 #[.val (.int i1), .val (.int i2), .val (.int i3), .val (.int v3_2_s0), .val (.int v15_4_s0), .val (.int v29_6_s0), .val (.int v40_8_s0), .val (.ref b2021), .unset, .unset, .unset, .unset, .unset, .unset, .unset] [])) rfl (hb hby at_91) (by decide) (by decide)
                obtain ⟨b3034, g3034⟩ : ∃ z, z = T2026.heap.size := ⟨_, rfl⟩
                rw [← g3034] at A3034 D3034 st3034
                have ne_b2021_b3034 : b2021 ≠ b3034 := Nat.ne_of_lt (Nat.lt_of_lt_of_le P2026_0.lt (Nat.le_of_eq g3034.symm))
                have ne_b2022_b3034 : b2022 ≠ b3034 := Nat.ne_of_lt (Nat.lt_of_lt_of_le (P2023_0.keep K2026).lt (Nat.le_of_eq g3034.symm))
                have g_b3034 : n0 ≤ b3034 := Nat.le_trans (Nat.le_trans (Nat.le_trans (Nat.le_trans (Nat.le_trans Z0 E2021.1) E2022.1) K2023.1) K2026.1) (Nat.le_of_eq g3034.symm)
                have F_steps_b3034 : Fld Z h3034 b3034 "wayfarer/process/RepeatStep$Condition" "steps" "Ljava/util/List;" .null := D3034 (Or.inr (hw _ (List.mem_of_getElem? (i := 39) rfl))) (ty := (.object "java/util/List")) (by decide)
                have F_ahead_b3034 : Fld Z h3034 b3034 "wayfarer/process/RepeatStep$Condition" "ahead" "Z" (.int (0 : Int32)) := D3034 (Or.inr (hw _ (List.mem_of_getElem? (i := 41) rfl))) (ty := .boolean) (by decide)
                refine own_step (f' := (mkF m 94 #[.val (.int i1), .val (.int i2), .val (.int i3), .val (.int v3_2_s0), .val (.int v15_4_s0), .val (.int v29_6_s0), .val (.int v40_8_s0), .val (.ref b2021), .unset, .unset, .unset, .unset, .unset, .unset, .unset] [(.ref b3034)])) st3034 ?_
                refine own_step (f' := (mkF m 95 #[.val (.int i1), .val (.int i2), .val (.int i3), .val (.int v3_2_s0), .val (.int v15_4_s0), .val (.int v29_6_s0), .val (.int v40_8_s0), .val (.ref b2021), .unset, .unset, .unset, .unset, .unset, .unset, .unset] [(.ref b3034), (.ref b3034)])) (fun _ k => XS.dup X3034.here hx rfl (hb hby at_94) rfl rfl k) ?_
                obtain ⟨T3035, h3035, X3035, e3035, E3035, A3035, D3035, -, st3035⟩ := newO X3034 hx hZ hown (hw _ (List.mem_of_getElem? (i := 3) rfl)) (hw _ (List.mem_of_getElem? (i := 4) rfl)) (hw _ (List.mem_of_getElem? (i := 5) rfl)) e3034 (g := (mkF m 95 #[.val (.int i1), .val (.int i2), .val (.int i3), .val (.int v3_2_s0), .val (.int v15_4_s0), .val (.int v29_6_s0), .val (.int v40_8_s0), .val (.ref b2021), .unset, .unset, .unset, .unset, .unset, .unset, .unset] [(.ref b3034), (.ref b3034)])) rfl (hb hby at_95) (by decide) (by decide)
                obtain ⟨b3035, g3035⟩ : ∃ z, z = h3034.size := ⟨_, rfl⟩
                rw [← g3035] at A3035 D3035 st3035
                have ne_b2021_b3035 : b2021 ≠ b3035 := Nat.ne_of_lt (Nat.lt_of_lt_of_le (P2026_0.ext E3034).lt (Nat.le_of_eq g3035.symm))
                have ne_b2022_b3035 : b2022 ≠ b3035 := Nat.ne_of_lt (Nat.lt_of_lt_of_le ((P2023_0.keep K2026).ext E3034).lt (Nat.le_of_eq g3035.symm))
                have ne_b3034_b3035 : b3034 ≠ b3035 := Nat.ne_of_lt (Nat.lt_of_lt_of_le A3034.lt (Nat.le_of_eq g3035.symm))
                have g_b3035 : n0 ≤ b3035 := Nat.le_trans (Nat.le_trans (Nat.le_trans (Nat.le_trans (Nat.le_trans (Nat.le_trans Z0 E2021.1) E2022.1) K2023.1) K2026.1) E3034.1) (Nat.le_of_eq g3035.symm)
                have F_modCount_b3035 : Fld Z h3035 b3035 "java/util/AbstractList" "modCount" "I" (.int (0 : Int32)) := D3035 (Or.inl (hw _ (List.mem_of_getElem? (i := 25) rfl))) (ty := .int) (by decide)
                have F_elementData_b3035 : Fld Z h3035 b3035 "java/util/ArrayList" "elementData" "[Ljava/lang/Object;" .null := D3035 (Or.inl (hw _ (List.mem_of_getElem? (i := 28) rfl))) (ty := (.array (.object "java/lang/Object"))) (by decide)
                refine own_step (f' := (mkF m 98 #[.val (.int i1), .val (.int i2), .val (.int i3), .val (.int v3_2_s0), .val (.int v15_4_s0), .val (.int v29_6_s0), .val (.int v40_8_s0), .val (.ref b2021), .unset, .unset, .unset, .unset, .unset, .unset, .unset] [(.ref b3035), (.ref b3034), (.ref b3034)])) st3035 ?_
                refine own_step (f' := (mkF m 99 #[.val (.int i1), .val (.int i2), .val (.int i3), .val (.int v3_2_s0), .val (.int v15_4_s0), .val (.int v29_6_s0), .val (.int v40_8_s0), .val (.ref b2021), .unset, .unset, .unset, .unset, .unset, .unset, .unset] [(.ref b3035), (.ref b3035), (.ref b3034), (.ref b3034)])) (fun _ k => XS.dup X3035.here hx rfl (hb hby at_98) rfl rfl k) ?_
                have Zq3036 : n0 ≤ h3035.size := (Nat.le_trans (Nat.le_trans (Nat.le_trans (Nat.le_trans (Nat.le_trans (Nat.le_trans Z0 E2021.1) E2022.1) K2023.1) K2026.1) E3034.1) E3035.1)
                obtain ⟨_, _, ⟨T3036, L3036, k3036, n3036⟩, -, X3036, ⟨Lc3036, hQ3036, l3036, y3036, z3036⟩, st3036⟩ := X3035.specialBack hx (y := (⟨"java/util/ArrayList", "<init>", "()V"⟩ : MethodName)) rfl hown (mvT hZ (hw _ (List.mem_of_getElem? (i := 6) rfl))) (mvT hZ (hw _ (List.mem_of_getElem? (i := 7) rfl))) (mvT hZ (hw _ (List.mem_of_getElem? (i := 8) rfl))) (by decide) (backOf (W := 3) (rm1 l Z a0 hw [] b3035 (.int (0 : Int32)) .null w1 h3035 n0 Zq3036 A3035 F_modCount_b3035 g_b3035 (((own_staKeep (own_staKeep ((S_DEFAULTCAPACITY_EMPTY_ELEMENTDATA.ext E2021).ext E2022) K2023 (allS (own_exaNS A2022) all0)) K2026 (allS (own_exaNS ((A2021.ext E2022).keep K2023)) all0)).ext E3034).ext E3035) F_elementData_b3035) hZ (hw _ (List.mem_of_getElem? (i := 8) rfl)) (hw _ (List.mem_of_getElem? (i := 5) rfl)) (by decide) (by decide)) (g := (mkF m 99 #[.val (.int i1), .val (.int i2), .val (.int i3), .val (.int v3_2_s0), .val (.int v15_4_s0), .val (.int v29_6_s0), .val (.int v40_8_s0), .val (.ref b2021), .unset, .unset, .unset, .unset, .unset, .unset, .unset] [(.ref b3035), (.ref b3035), (.ref b3034), (.ref b3034)])) rfl (by rw [hml]; rfl) (Steps.refl _) (a := b3035) (argsL := []) (rest := [(.ref b3035), (.ref b3034), (.ref b3034)]) (lenOf pd_0 rfl) rfl (by show 2 * 0 + _ ≤ _; exact Nat.le_of_eq rfl) (hb hby at_99) (fun _ _ => ⟨rfl, e3035, (by decide : 4 + 0 ≤ _), (by decide : 10 + 0 ≤ _)⟩)
                dsimp only [Pt.U, Pt.locs, Pt.cells, Pt.slots] at X3036 l3036 y3036 z3036 st3036 hQ3036
                subst l3036 y3036 z3036
                obtain ⟨rfl, Nq3036, K3036, P3036_0, P3036_1, P3036_2⟩ := hQ3036
                obtain ⟨Lo3036, X3036, N3036⟩ : ∃ K, Stand p l e room_1 s m #[(.int i1), (.int i2), (.int i3)] below meth c T3036 K 4 10 ∧ Fr n0 K := ⟨_, X3036, (Fr.app N2026 Nq3036)⟩
                refine own_jump (f' := (mkF m 102 #[.val (.int i1), .val (.int i2), .val (.int i3), .val (.int v3_2_s0), .val (.int v15_4_s0), .val (.int v29_6_s0), .val (.int v40_8_s0), .val (.ref b2021), .unset, .unset, .unset, .unset, .unset, .unset, .unset] [(.ref b3035), (.ref b3034), (.ref b3034)])) st3036 ?_
                refine own_step (f' := (mkF m 103 #[.val (.int i1), .val (.int i2), .val (.int i3), .val (.int v3_2_s0), .val (.int v15_4_s0), .val (.int v29_6_s0), .val (.int v40_8_s0), .val (.ref b2021), .unset, .unset, .unset, .unset, .unset, .unset, .unset] [(.int i2), (.ref b3035), (.ref b3034), (.ref b3034)])) (fun _ k => XS.iloadN X3036.here hx rfl (hb hby at_102) rfl k) ?_
                refine own_step (f' := (mkF m 105 #[.val (.int i1), .val (.int i2), .val (.int i3), .val (.int v3_2_s0), .val (.int v15_4_s0), .val (.int v29_6_s0), .val (.int v40_8_s0), .val (.ref b2021), .unset, .unset, .unset, .unset, .unset, .unset, .unset] [(.int (16 : Int32)), (.int i2), (.ref b3035), (.ref b3034), (.ref b3034)])) (fun _ k => XS.bipush X3036.here hx rfl (hb hby at_103) k) ?_
                refine own_step (f' := (mkF m 106 #[.val (.int i1), .val (.int i2), .val (.int i3), .val (.int v3_2_s0), .val (.int v15_4_s0), .val (.int v29_6_s0), .val (.int v40_8_s0), .val (.ref b2021), .unset, .unset, .unset, .unset, .unset, .unset, .unset] [(.int (i2 &&& (16 : Int32))), (.ref b3035), (.ref b3034), (.ref b3034)])) (fun _ k => XS.iand X3036.here hx rfl (hb hby at_105) rfl k) ?_
                have J106_3038 : ∀ (T106_3038 : State) (v106_3038_s0 : Int32), Stand p l e room_1 s m #[(.int i1), (.int i2), (.int i3)] below meth c T106_3038 Lo3036 4 10 → T106_3038.heap = T3036.heap → v106_3038_s0 = (if (i2 &&& (16 : Int32)) = (0 : Int32) then (0 : Int32) else (1 : Int32)) → own_Goes p e below s (Q0 Z i1 i2 i3 w1 h0 n0) room_1.cells room_1.slots T106_3038 (mkF m 114 #[.val (.int i1), .val (.int i2), .val (.int i3), .val (.int v3_2_s0), .val (.int v15_4_s0), .val (.int v29_6_s0), .val (.int v40_8_s0), .val (.ref b2021), .unset, .unset, .unset, .unset, .unset, .unset, .unset] [(.int v106_3038_s0), (.ref b3035), (.ref b3034), (.ref b3034)]) := by
                  intro T106_3038 v106_3038_s0 X106_3038 e106_3038 hv106_3038_0
                  have Zq3039 : n0 ≤ T3036.heap.size := (Nat.le_trans (Nat.le_trans (Nat.le_trans (Nat.le_trans (Nat.le_trans (Nat.le_trans (Nat.le_trans Z0 E2021.1) E2022.1) K2023.1) K2026.1) E3034.1) E3035.1) K3036.1)
                  obtain ⟨_, _, ⟨T3039, L3039, k3039, n3039⟩, -, X3039, ⟨Lc3039, hQ3039, l3039, y3039, z3039⟩, st3039⟩ := X106_3038.specialBack hx (y := (⟨"wayfarer/process/RepeatStep$Condition", "<init>", "(Ljava/util/List;Z)V"⟩ : MethodName)) rfl hown (mvT hZ (hw _ (List.mem_of_getElem? (i := 29) rfl))) (mvT hZ (hw _ (List.mem_of_getElem? (i := 30) rfl))) (mvT hZ (hw _ (List.mem_of_getElem? (i := 31) rfl))) (by decide) (backOf (W := 1) (rm5 l Z a0 hw [] b3034 b3035 v106_3038_s0 .null (.int (0 : Int32)) T3036.heap n0 Zq3039 ((A3034.ext E3035).keep K3036) ((F_steps_b3034.ext E3035).keep K3036 (ninS ne_b3034_b3035 nin0)) ((F_ahead_b3034.ext E3035).keep K3036 (ninS ne_b3034_b3035 nin0)) g_b3034) hZ (hw _ (List.mem_of_getElem? (i := 31) rfl)) (hw _ (List.mem_of_getElem? (i := 2) rfl)) (by decide) (by decide)) (g := (mkF m 114 #[.val (.int i1), .val (.int i2), .val (.int i3), .val (.int v3_2_s0), .val (.int v15_4_s0), .val (.int v29_6_s0), .val (.int v40_8_s0), .val (.ref b2021), .unset, .unset, .unset, .unset, .unset, .unset, .unset] [(.int v106_3038_s0), (.ref b3035), (.ref b3034), (.ref b3034)])) rfl (by rw [hml]; rfl) (Steps.refl _) (a := b3034) (argsL := [(.ref b3035), (.int v106_3038_s0)]) (rest := [(.ref b3034)]) (lenOf pd_4 rfl) rfl (by show 2 * 0 + _ ≤ _; exact Nat.le_of_eq rfl) (hb hby at_114) (fun _ _ => ⟨rfl, e106_3038, (by decide : 4 + 0 ≤ _), (by decide : 10 + 0 ≤ _)⟩)
                  dsimp only [Pt.U, Pt.locs, Pt.cells, Pt.slots] at X3039 l3039 y3039 z3039 st3039 hQ3039
                  subst l3039 y3039 z3039
                  obtain ⟨rfl, Nq3039, K3039, P3039_0⟩ := hQ3039
                  obtain ⟨Lo3039, X3039, N3039⟩ : ∃ K, Stand p l e room_1 s m #[(.int i1), (.int i2), (.int i3)] below meth c T3039 K 4 10 ∧ Fr n0 K := ⟨_, X3039, (Fr.app N3036 Nq3039)⟩
                  refine own_jump (f' := (mkF m 117 #[.val (.int i1), .val (.int i2), .val (.int i3), .val (.int v3_2_s0), .val (.int v15_4_s0), .val (.int v29_6_s0), .val (.int v40_8_s0), .val (.ref b2021), .unset, .unset, .unset, .unset, .unset, .unset, .unset] [(.ref b3034)])) st3039 ?_
                  refine own_step (f' := (mkF m 121 #[.val (.int i1), .val (.int i2), .val (.int i3), .val (.int v3_2_s0), .val (.int v15_4_s0), .val (.int v29_6_s0), .val (.int v40_8_s0), .val (.ref b2021), .unset, .unset, .unset, .unset, .unset, .unset, .unset] [(.ref b3034)])) (fun _ k => XS.goto X3039.here hx rfl (pc0 := 117) (pc' := 121) rfl (hb hby at_117) (by decide) (by decide) k) ?_
                  refine own_step (f' := (mkF m 123 #[.val (.int i1), .val (.int i2), .val (.int i3), .val (.int v3_2_s0), .val (.int v15_4_s0), .val (.int v29_6_s0), .val (.int v40_8_s0), .val (.ref b2021), .val (.ref b3034), .unset, .unset, .unset, .unset, .unset, .unset] [])) (fun _ k => XS.astore X3039.here hx rfl (hb hby at_121) rfl rfl (l' := #[.val (.int i1), .val (.int i2), .val (.int i3), .val (.int v3_2_s0), .val (.int v15_4_s0), .val (.int v29_6_s0), .val (.int v40_8_s0), .val (.ref b2021), .val (.ref b3034), .unset, .unset, .unset, .unset, .unset, .unset]) rfl k) ?_
                  obtain ⟨T3040, h3040, X3040, e3040, E3040, A3040, D3040, -, st3040⟩ := newO X3039 hx hZ hown (hw _ (List.mem_of_getElem? (i := 42) rfl)) (hw _ (List.mem_of_getElem? (i := 43) rfl)) (hw _ (List.mem_of_getElem? (i := 44) rfl)) rfl (g := (mkF m 123 #[.val (.int i1), .val (.int i2), .val (.int i3), .val (.int v3_2_s0), .val (.int v15_4_s0), .val (.int v29_6_s0), .val (.int v40_8_s0), .val (.ref b2021), .val (.ref b3034), .unset, .unset, .unset, .unset, .unset, .unset] [])) rfl (hb hby at_123) (by decide) (by decide)
                  obtain ⟨b3040, g3040⟩ : ∃ z, z = T3039.heap.size := ⟨_, rfl⟩
                  rw [← g3040] at A3040 D3040 st3040
                  have ne_b2021_b3040 : b2021 ≠ b3040 := Nat.ne_of_lt (Nat.lt_of_lt_of_le ((((P2026_0.ext E3034).ext E3035).keep K3036).keep K3039).lt (Nat.le_of_eq g3040.symm))
                  have ne_b2022_b3040 : b2022 ≠ b3040 := Nat.ne_of_lt (Nat.lt_of_lt_of_le (((((P2023_0.keep K2026).ext E3034).ext E3035).keep K3036).keep K3039).lt (Nat.le_of_eq g3040.symm))
                  have ne_b3034_b3040 : b3034 ≠ b3040 := Nat.ne_of_lt (Nat.lt_of_lt_of_le P3039_0.lt (Nat.le_of_eq g3040.symm))
                  have ne_b3035_b3040 : b3035 ≠ b3040 := Nat.ne_of_lt (Nat.lt_of_lt_of_le (P3036_0.keep K3039).lt (Nat.le_of_eq g3040.symm))
                  have g_b3040 : n0 ≤ b3040 := Nat.le_trans (Nat.le_trans (Nat.le_trans (Nat.le_trans (Nat.le_trans (Nat.le_trans (Nat.le_trans (Nat.le_trans (Nat.le_trans Z0 E2021.1) E2022.1) K2023.1) K2026.1) E3034.1) E3035.1) K3036.1) K3039.1) (Nat.le_of_eq g3040.symm)
                  have F_body_b3040 : Fld Z h3040 b3040 "wayfarer/process/RepeatStep" "body" "Ljava/util/List;" .null := D3040 (Or.inr (hw _ (List.mem_of_getElem? (i := 50) rfl))) (ty := (.object "java/util/List")) (by decide)
                  have F_times_b3040 : Fld Z h3040 b3040 "wayfarer/process/RepeatStep" "times" "I" (.int (0 : Int32)) := D3040 (Or.inr (hw _ (List.mem_of_getElem? (i := 52) rfl))) (ty := .int) (by decide)
                  have F_until_b3040 : Fld Z h3040 b3040 "wayfarer/process/RepeatStep" "until" "Lwayfarer/process/RepeatStep$Condition;" .null := D3040 (Or.inr (hw _ (List.mem_of_getElem? (i := 54) rfl))) (ty := (.object "wayfarer/process/RepeatStep$Condition")) (by decide)
                  have F_emit_b3040 : Fld Z h3040 b3040 "wayfarer/process/RepeatStep" "emit" "Lwayfarer/process/RepeatStep$Condition;" .null := D3040 (Or.inr (hw _ (List.mem_of_getElem? (i := 56) rfl))) (ty := (.object "wayfarer/process/RepeatStep$Condition")) (by decide)
                  refine own_step (f' := (mkF m 126 #[.val (.int i1), .val (.int i2), .val (.int i3), .val (.int v3_2_s0), .val (.int v15_4_s0), .val (.int v29_6_s0), .val (.int v40_8_s0), .val (.ref b2021), .val (.ref b3034), .unset, .unset, .unset, .unset, .unset, .unset] [(.ref b3040)])) st3040 ?_
                  refine own_step (f' := (mkF m 127 #[.val (.int i1), .val (.int i2), .val (.int i3), .val (.int v3_2_s0), .val (.int v15_4_s0), .val (.int v29_6_s0), .val (.int v40_8_s0), .val (.ref b2021), .val (.ref b3034), .unset, .unset, .unset, .unset, .unset, .unset] [(.ref b3040), (.ref b3040)])) (fun _ k => XS.dup X3040.here hx rfl (hb hby at_126) rfl rfl k) ?_
                  obtain ⟨T3041, h3041, X3041, e3041, E3041, A3041, D3041, -, st3041⟩ := newO X3040 hx hZ hown (hw _ (List.mem_of_getElem? (i := 3) rfl)) (hw _ (List.mem_of_getElem? (i := 4) rfl)) (hw _ (List.mem_of_getElem? (i := 5) rfl)) e3040 (g := (mkF m 127 #[.val (.int i1), .val (.int i2), .val (.int i3), .val (.int v3_2_s0), .val (.int v15_4_s0), .val (.int v29_6_s0), .val (.int v40_8_s0), .val (.ref b2021), .val (.ref b3034), .unset, .unset, .unset, .unset, .unset, .unset] [(.ref b3040), (.ref b3040)])) rfl (hb hby at_127) (by decide) (by decide)
                  obtain ⟨b3041, g3041⟩ : ∃ z, z = h3040.size := ⟨_, rfl⟩
                  rw [← g3041] at A3041 D3041 st3041
                  have ne_b2021_b3041 : b2021 ≠ b3041 := Nat.ne_of_lt (Nat.lt_of_lt_of_le (((((P2026_0.ext E3034).ext E3035).keep K3036).keep K3039).ext E3040).lt (Nat.le_of_eq g3041.symm))
                  have ne_b2022_b3041 : b2022 ≠ b3041 := Nat.ne_of_lt (Nat.lt_of_lt_of_le ((((((P2023_0.keep K2026).ext E3034).ext E3035).keep K3036).keep K3039).ext E3040).lt (Nat.le_of_eq g3041.symm))
                  have ne_b3034_b3041 : b3034 ≠ b3041 := Nat.ne_of_lt (Nat.lt_of_lt_of_le (P3039_0.ext E3040).lt (Nat.le_of_eq g3041.symm))
                  have ne_b3035_b3041 : b3035 ≠ b3041 := Nat.ne_of_lt (Nat.lt_of_lt_of_le ((P3036_0.keep K3039).ext E3040).lt (Nat.le_of_eq g3041.symm))
                  have ne_b3040_b3041 : b3040 ≠ b3041 := Nat.ne_of_lt (Nat.lt_of_lt_of_le A3040.lt (Nat.le_of_eq g3041.symm))
                  have g_b3041 : n0 ≤ b3041 := Nat.le_trans (Nat.le_trans (Nat.le_trans (Nat.le_trans (Nat.le_trans (Nat.le_trans (Nat.le_trans (Nat.le_trans (Nat.le_trans (Nat.le_trans Z0 E2021.1) E2022.1) K2023.1) K2026.1) E3034.1) E3035.1) K3036.1) K3039.1) E3040.1) (Nat.le_of_eq g3041.symm)
                  have F_modCount_b3041 : Fld Z h3041 b3041 "java/util/AbstractList" "modCount" "I" (.int (0 : Int32)) := D3041 (Or.inl (hw _ (List.mem_of_getElem? (i := 25) rfl))) (ty := .int) (by decide)
                  have F_elementData_b3041 : Fld Z h3041 b3041 "java/util/ArrayList" "elementData" "[Ljava/lang/Object;" .null := D3041 (Or.inl (hw _ (List.mem_of_getElem? (i := 28) rfl))) (ty := (.array (.object "java/lang/Object"))) (by decide)
                  refine own_step (f' := (mkF m 130 #[.val (.int i1), .val (.int i2), .val (.int i3), .val (.int v3_2_s0), .val (.int v15_4_s0), .val (.int v29_6_s0), .val (.int v40_8_s0), .val (.ref b2021), .val (.ref b3034), .unset, .unset, .unset, .unset, .unset, .unset] [(.ref b3041), (.ref b3040), (.ref b3040)])) st3041 ?_
                  refine own_step (f' := (mkF m 131 #[.val (.int i1), .val (.int i2), .val (.int i3), .val (.int v3_2_s0), .val (.int v15_4_s0), .val (.int v29_6_s0), .val (.int v40_8_s0), .val (.ref b2021), .val (.ref b3034), .unset, .unset, .unset, .unset, .unset, .unset] [(.ref b3041), (.ref b3041), (.ref b3040), (.ref b3040)])) (fun _ k => XS.dup X3041.here hx rfl (hb hby at_130) rfl rfl k) ?_
                  have Zq3042 : n0 ≤ h3041.size := (Nat.le_trans (Nat.le_trans (Nat.le_trans (Nat.le_trans (Nat.le_trans (Nat.le_trans (Nat.le_trans (Nat.le_trans (Nat.le_trans (Nat.le_trans Z0 E2021.1) E2022.1) K2023.1) K2026.1) E3034.1) E3035.1) K3036.1) K3039.1) E3040.1) E3041.1)
                  obtain ⟨_, _, ⟨T3042, L3042, k3042, n3042⟩, -, X3042, ⟨Lc3042, hQ3042, l3042, y3042, z3042⟩, st3042⟩ := X3041.specialBack hx (y := (⟨"java/util/ArrayList", "<init>", "()V"⟩ : MethodName)) rfl hown (mvT hZ (hw _ (List.mem_of_getElem? (i := 6) rfl))) (mvT hZ (hw _ (List.mem_of_getElem? (i := 7) rfl))) (mvT hZ (hw _ (List.mem_of_getElem? (i := 8) rfl))) (by decide) (backOf (W := 3) (rm1 l Z a0 hw [] b3041 (.int (0 : Int32)) .null w1 h3041 n0 Zq3042 A3041 F_modCount_b3041 g_b3041 (((own_staKeep (own_staKeep (((own_staKeep (own_staKeep ((S_DEFAULTCAPACITY_EMPTY_ELEMENTDATA.ext E2021).ext E2022) K2023 (allS (own_exaNS A2022) all0)) K2026 (allS (own_exaNS ((A2021.ext E2022).keep K2023)) all0)).ext E3034).ext E3035) K3036 (allS (own_exaNS A3035) all0)) K3039 (allS (own_exaNS ((A3034.ext E3035).keep K3036)) all0)).ext E3040).ext E3041) F_elementData_b3041) hZ (hw _ (List.mem_of_getElem? (i := 8) rfl)) (hw _ (List.mem_of_getElem? (i := 5) rfl)) (by decide) (by decide)) (g := (mkF m 131 #[.val (.int i1), .val (.int i2), .val (.int i3), .val (.int v3_2_s0), .val (.int v15_4_s0), .val (.int v29_6_s0), .val (.int v40_8_s0), .val (.ref b2021), .val (.ref b3034), .unset, .unset, .unset, .unset, .unset, .unset] [(.ref b3041), (.ref b3041), (.ref b3040), (.ref b3040)])) rfl (by rw [hml]; rfl) (Steps.refl _) (a := b3041) (argsL := []) (rest := [(.ref b3041), (.ref b3040), (.ref b3040)]) (lenOf pd_0 rfl) rfl (by show 2 * 0 + _ ≤ _; exact Nat.le_of_eq rfl) (hb hby at_131) (fun _ _ => ⟨rfl, e3041, (by decide : 6 + 0 ≤ _), (by decide : 17 + 0 ≤ _)⟩)
                  dsimp only [Pt.U, Pt.locs, Pt.cells, Pt.slots] at X3042 l3042 y3042 z3042 st3042 hQ3042
                  subst l3042 y3042 z3042
                  obtain ⟨rfl, Nq3042, K3042, P3042_0, P3042_1, P3042_2⟩ := hQ3042
                  obtain ⟨Lo3042, X3042, N3042⟩ : ∃ K, Stand p l e room_1 s m #[(.int i1), (.int i2), (.int i3)] below meth c T3042 K 6 17 ∧ Fr n0 K := ⟨_, X3042, (Fr.app N3039 Nq3042)⟩
                  refine own_jump (f' := (mkF m 134 #[.val (.int i1), .val (.int i2), .val (.int i3), .val (.int v3_2_s0), .val (.int v15_4_s0), .val (.int v29_6_s0), .val (.int v40_8_s0), .val (.ref b2021), .val (.ref b3034), .unset, .unset, .unset, .unset, .unset, .unset] [(.ref b3041), (.ref b3040), (.ref b3040)])) st3042 ?_
                  refine own_step (f' := (mkF m 136 #[.val (.int i1), .val (.int i2), .val (.int i3), .val (.int v3_2_s0), .val (.int v15_4_s0), .val (.int v29_6_s0), .val (.int v40_8_s0), .val (.ref b2021), .val (.ref b3034), .unset, .unset, .unset, .unset, .unset, .unset] [(.int v40_8_s0), (.ref b3041), (.ref b3040), (.ref b3040)])) (fun _ k => XS.iload X3042.here hx rfl (hb hby at_134) rfl k) ?_
                  refine own_step (f' := (mkF m 138 #[.val (.int i1), .val (.int i2), .val (.int i3), .val (.int v3_2_s0), .val (.int v15_4_s0), .val (.int v29_6_s0), .val (.int v40_8_s0), .val (.ref b2021), .val (.ref b3034), .unset, .unset, .unset, .unset, .unset, .unset] [(.ref b2021), (.int v40_8_s0), (.ref b3041), (.ref b3040), (.ref b3040)])) (fun _ k => XS.aload X3042.here hx rfl (hb hby at_136) rfl rfl k) ?_
                  refine own_step (f' := (mkF m 140 #[.val (.int i1), .val (.int i2), .val (.int i3), .val (.int v3_2_s0), .val (.int v15_4_s0), .val (.int v29_6_s0), .val (.int v40_8_s0), .val (.ref b2021), .val (.ref b3034), .unset, .unset, .unset, .unset, .unset, .unset] [(.ref b3034), (.ref b2021), (.int v40_8_s0), (.ref b3041), (.ref b3040), (.ref b3040)])) (fun _ k => XS.aload X3042.here hx rfl (hb hby at_138) rfl rfl k) ?_
                  have Zq3043 : n0 ≤ T3042.heap.size := (Nat.le_trans (Nat.le_trans (Nat.le_trans (Nat.le_trans (Nat.le_trans (Nat.le_trans (Nat.le_trans (Nat.le_trans (Nat.le_trans (Nat.le_trans (Nat.le_trans Z0 E2021.1) E2022.1) K2023.1) K2026.1) E3034.1) E3035.1) K3036.1) K3039.1) E3040.1) E3041.1) K3042.1)
                  obtain ⟨_, _, ⟨T3043, L3043, k3043, n3043⟩, -, X3043, ⟨Lc3043, hQ3043, l3043, y3043, z3043⟩, st3043⟩ := X3042.specialBack hx (y := (⟨"wayfarer/process/RepeatStep", "<init>", "(Ljava/util/List;ILwayfarer/process/RepeatStep$Condition;Lwayfarer/process/RepeatStep$Condition;)V"⟩ : MethodName)) rfl hown (mvT hZ (hw _ (List.mem_of_getElem? (i := 45) rfl))) (mvT hZ (hw _ (List.mem_of_getElem? (i := 46) rfl))) (mvT hZ (hw _ (List.mem_of_getElem? (i := 47) rfl))) (by decide) (backOf (W := 1) (rm7rr l Z a0 hw [] b3040 b3041 v40_8_s0 b2021 b3034 .null (.int (0 : Int32)) .null .null T3042.heap n0 Zq3043 ((A3040.ext E3041).keep K3042) ((F_body_b3040.ext E3041).keep K3042 (ninS ne_b3040_b3041 nin0)) ((F_times_b3040.ext E3041).keep K3042 (ninS ne_b3040_b3041 nin0)) ((F_until_b3040.ext E3041).keep K3042 (ninS ne_b3040_b3041 nin0)) ((F_emit_b3040.ext E3041).keep K3042 (ninS ne_b3040_b3041 nin0)) g_b3040) hZ (hw _ (List.mem_of_getElem? (i := 47) rfl)) (hw _ (List.mem_of_getElem? (i := 44) rfl)) (by decide) (by decide)) (g := (mkF m 140 #[.val (.int i1), .val (.int i2), .val (.int i3), .val (.int v3_2_s0), .val (.int v15_4_s0), .val (.int v29_6_s0), .val (.int v40_8_s0), .val (.ref b2021), .val (.ref b3034), .unset, .unset, .unset, .unset, .unset, .unset] [(.ref b3034), (.ref b2021), (.int v40_8_s0), (.ref b3041), (.ref b3040), (.ref b3040)])) rfl (by rw [hml]; rfl) (Steps.refl _) (a := b3040) (argsL := [(.ref b3041), (.int v40_8_s0), (.ref b2021), (.ref b3034)]) (rest := [(.ref b3040)]) (lenOf pd_2 rfl) rfl (by show 2 * 0 + _ ≤ _; exact Nat.le_of_eq rfl) (hb hby at_140) (fun _ _ => ⟨rfl, rfl, (by decide : 6 + 0 ≤ _), (by decide : 17 + 0 ≤ _)⟩)
                  dsimp only [Pt.U, Pt.locs, Pt.cells, Pt.slots] at X3043 l3043 y3043 z3043 st3043 hQ3043
                  subst l3043 y3043 z3043
                  obtain ⟨rfl, Nq3043, K3043, P3043_0, P3043_1, P3043_2, P3043_3, P3043_4⟩ := hQ3043
                  obtain ⟨Lo3043, X3043, N3043⟩ : ∃ K, Stand p l e room_1 s m #[(.int i1), (.int i2), (.int i3)] below meth c T3043 K 6 17 ∧ Fr n0 K := ⟨_, X3043, (Fr.app N3042 Nq3043)⟩
                  refine own_jump (f' := (mkF m 143 #[.val (.int i1), .val (.int i2), .val (.int i3), .val (.int v3_2_s0), .val (.int v15_4_s0), .val (.int v29_6_s0), .val (.int v40_8_s0), .val (.ref b2021), .val (.ref b3034), .unset, .unset, .unset, .unset, .unset, .unset] [(.ref b3040)])) st3043 ?_
                  refine own_step (f' := (mkF m 145 #[.val (.int i1), .val (.int i2), .val (.int i3), .val (.int v3_2_s0), .val (.int v15_4_s0), .val (.int v29_6_s0), .val (.int v40_8_s0), .val (.ref b2021), .val (.ref b3034), .val (.ref b3040), .unset, .unset, .unset, .unset, .unset] [])) (fun _ k => XS.astore X3043.here hx rfl (hb hby at_143) rfl rfl (l' := #[.val (.int i1), .val (.int i2), .val (.int i3), .val (.int v3_2_s0), .val (.int v15_4_s0), .val (.int v29_6_s0), .val (.int v40_8_s0), .val (.ref b2021), .val (.ref b3034), .val (.ref b3040), .unset, .unset, .unset, .unset, .unset]) rfl k) ?_
                  refine own_step (f' := (mkF m 147 #[.val (.int i1), .val (.int i2), .val (.int i3), .val (.int v3_2_s0), .val (.int v15_4_s0), .val (.int v29_6_s0), .val (.int v40_8_s0), .val (.ref b2021), .val (.ref b3034), .val (.ref b3040), .unset, .unset, .unset, .unset, .unset] [(.int v40_8_s0)])) (fun _ k => XS.iload X3043.here hx rfl (hb hby at_145) rfl k) ?_
                  refine own_step (f' := (mkF m 148 #[.val (.int i1), .val (.int i2), .val (.int i3), .val (.int v3_2_s0), .val (.int v15_4_s0), .val (.int v29_6_s0), .val (.int v40_8_s0), .val (.ref b2021), .val (.ref b3034), .val (.ref b3040), .unset, .unset, .unset, .unset, .unset] [(.int (-1 : Int32)), (.int v40_8_s0)])) (fun _ k => XS.iconst X3043.here hx rfl (hb hby at_147) k) ?_
                  have J148_3046 : ∀ (T148_3046 : State) (v148_3046_s0 : Int32), Stand p l e room_1 s m #[(.int i1), (.int i2), (.int i3)] below meth c T148_3046 Lo3043 6 17 → T148_3046.heap = T3043.heap → v148_3046_s0 = (if v40_8_s0 = (-1 : Int32) then (if v15_4_s0 = (0 : Int32) then (0 : Int32) else (1 : Int32)) else (1 : Int32)) → own_Goes p e below s (Q0 Z i1 i2 i3 w1 h0 n0) room_1.cells room_1.slots T148_3046 (mkF m 161 #[.val (.int i1), .val (.int i2), .val (.int i3), .val (.int v3_2_s0), .val (.int v15_4_s0), .val (.int v29_6_s0), .val (.int v40_8_s0), .val (.ref b2021), .val (.ref b3034), .val (.ref b3040), .unset, .unset, .unset, .unset, .unset] [(.int v148_3046_s0)]) := by
                    intro T148_3046 v148_3046_s0 X148_3046 e148_3046 hv148_3046_0
                    refine own_step (f' := (mkF m 163 #[.val (.int i1), .val (.int i2), .val (.int i3), .val (.int v3_2_s0), .val (.int v15_4_s0), .val (.int v29_6_s0), .val (.int v40_8_s0), .val (.ref b2021), .val (.ref b3034), .val (.ref b3040), .val (.int v148_3046_s0), .unset, .unset, .unset, .unset] [])) (fun _ k => XS.istore X148_3046.here hx rfl (hb hby at_161) rfl (l' := #[.val (.int i1), .val (.int i2), .val (.int i3), .val (.int v3_2_s0), .val (.int v15_4_s0), .val (.int v29_6_s0), .val (.int v40_8_s0), .val (.ref b2021), .val (.ref b3034), .val (.ref b3040), .val (.int v148_3046_s0), .unset, .unset, .unset, .unset]) rfl k) ?_
                    refine own_step (f' := (mkF m 165 #[.val (.int i1), .val (.int i2), .val (.int i3), .val (.int v3_2_s0), .val (.int v15_4_s0), .val (.int v29_6_s0), .val (.int v40_8_s0), .val (.ref b2021), .val (.ref b3034), .val (.ref b3040), .val (.int v148_3046_s0), .unset, .unset, .unset, .unset] [(.ref b3040)])) (fun _ k => XS.aload X148_3046.here hx rfl (hb hby at_163) rfl rfl k) ?_
                    have Zq3047 : n0 ≤ T3043.heap.size := (Nat.le_trans (Nat.le_trans (Nat.le_trans (Nat.le_trans (Nat.le_trans (Nat.le_trans (Nat.le_trans (Nat.le_trans (Nat.le_trans (Nat.le_trans (Nat.le_trans (Nat.le_trans Z0 E2021.1) E2022.1) K2023.1) K2026.1) E3034.1) E3035.1) K3036.1) K3039.1) E3040.1) E3041.1) K3042.1) K3043.1)
                    obtain ⟨cq3047, kq3047, q3047a, q3047b, q3047c⟩ := isOf hZ e148_3046 P3043_0
                    obtain ⟨_, _, ⟨T3047, L3047, k3047, n3047⟩, -, X3047, ⟨Lc3047, hQ3047, l3047, y3047, z3047⟩, st3047⟩ := X148_3046.virtualBack hx (y := (⟨"wayfarer/process/RepeatStep", "stops", "()Z"⟩ : MethodName)) (z := (⟨"wayfarer/process/RepeatStep", "stops", "()Z"⟩ : MethodName)) hown (mvT hZ (hw _ (List.mem_of_getElem? (i := 57) rfl))) (mvT hZ (hw _ (List.mem_of_getElem? (i := 58) rfl))) (notFace_of_selects (args := #[]) (mvT hZ (hw _ (List.mem_of_getElem? (i := 60) rfl)))) (mvT hZ (hw _ (List.mem_of_getElem? (i := 60) rfl))) (mvT hZ (hw _ (List.mem_of_getElem? (i := 59) rfl))) (by decide) (backOf (W := 0) (rm8r l Z a0 hw [] b3040 v40_8_s0 b2021 T3043.heap n0 Zq3047 P3043_2 P3043_3) hZ (hw _ (List.mem_of_getElem? (i := 61) rfl)) (hw _ (List.mem_of_getElem? (i := 44) rfl)) (by decide) (by decide)) q3047a q3047c (g := (mkF m 165 #[.val (.int i1), .val (.int i2), .val (.int i3), .val (.int v3_2_s0), .val (.int v15_4_s0), .val (.int v29_6_s0), .val (.int v40_8_s0), .val (.ref b2021), .val (.ref b3034), .val (.ref b3040), .val (.int v148_3046_s0), .unset, .unset, .unset, .unset] [(.ref b3040)])) rfl (by rw [hml]; rfl) (Steps.refl _) (argsL := []) (rest := []) (lenOf pd_1 rfl) rfl (by show 2 * 0 + _ ≤ _; exact Nat.le_of_eq rfl) (hb hby at_165) (fun _ _ => ⟨rfl, e148_3046, (by decide : 6 + 0 ≤ _), (by decide : 17 + 0 ≤ _)⟩)
                    dsimp only [Pt.U, Pt.locs, Pt.cells, Pt.slots] at X3047 l3047 y3047 z3047 st3047 hQ3047
                    subst l3047 y3047 z3047
                    obtain ⟨rfl, rfl, e3047⟩ := hQ3047
                    try rw [List.append_nil] at X3047
                    refine own_jump (f' := (mkF m 168 #[.val (.int i1), .val (.int i2), .val (.int i3), .val (.int v3_2_s0), .val (.int v15_4_s0), .val (.int v29_6_s0), .val (.int v40_8_s0), .val (.ref b2021), .val (.ref b3034), .val (.ref b3040), .val (.int v148_3046_s0), .unset, .unset, .unset, .unset] [(.int (1 : Int32))])) st3047 ?_
                    refine own_step (f' := (mkF m 170 #[.val (.int i1), .val (.int i2), .val (.int i3), .val (.int v3_2_s0), .val (.int v15_4_s0), .val (.int v29_6_s0), .val (.int v40_8_s0), .val (.ref b2021), .val (.ref b3034), .val (.ref b3040), .val (.int v148_3046_s0), .val (.int (1 : Int32)), .unset, .unset, .unset] [])) (fun _ k => XS.istore X3047.here hx rfl (hb hby at_168) rfl (l' := #[.val (.int i1), .val (.int i2), .val (.int i3), .val (.int v3_2_s0), .val (.int v15_4_s0), .val (.int v29_6_s0), .val (.int v40_8_s0), .val (.ref b2021), .val (.ref b3034), .val (.ref b3040), .val (.int v148_3046_s0), .val (.int (1 : Int32)), .unset, .unset, .unset]) rfl k) ?_
                    refine own_step (f' := (mkF m 172 #[.val (.int i1), .val (.int i2), .val (.int i3), .val (.int v3_2_s0), .val (.int v15_4_s0), .val (.int v29_6_s0), .val (.int v40_8_s0), .val (.ref b2021), .val (.ref b3034), .val (.ref b3040), .val (.int v148_3046_s0), .val (.int (1 : Int32)), .unset, .unset, .unset] [(.int (1 : Int32))])) (fun _ k => XS.iload X3047.here hx rfl (hb hby at_170) rfl k) ?_
                    refine own_step (f' := (mkF m 174 #[.val (.int i1), .val (.int i2), .val (.int i3), .val (.int v3_2_s0), .val (.int v15_4_s0), .val (.int v29_6_s0), .val (.int v40_8_s0), .val (.ref b2021), .val (.ref b3034), .val (.ref b3040), .val (.int v148_3046_s0), .val (.int (1 : Int32)), .unset, .unset, .unset] [(.int v148_3046_s0), (.int (1 : Int32))])) (fun _ k => XS.iload X3047.here hx rfl (hb hby at_172) rfl k) ?_
                    have hf174_3048 : (1 : Int32) = v148_3046_s0 := own_e1 _ _ _ hc52_9 hv148_3046_0
                    refine own_step (f' := (mkF m 179 #[.val (.int i1), .val (.int i2), .val (.int i3), .val (.int v3_2_s0), .val (.int v15_4_s0), .val (.int v29_6_s0), .val (.int v40_8_s0), .val (.ref b2021), .val (.ref b3034), .val (.ref b3040), .val (.int v148_3046_s0), .val (.int (1 : Int32)), .unset, .unset, .unset] [])) (fun _ k => XS.icmpYes X3047.here hx rfl (pc0 := 174) (pc' := 179) rfl (hb hby at_174) rfl (teq hf174_3048).1 (by decide) (by decide) k) ?_
                    refine own_step (f' := (mkF m 181 #[.val (.int i1), .val (.int i2), .val (.int i3), .val (.int v3_2_s0), .val (.int v15_4_s0), .val (.int v29_6_s0), .val (.int v40_8_s0), .val (.ref b2021), .val (.ref b3034), .val (.ref b3040), .val (.int v148_3046_s0), .val (.int (1 : Int32)), .unset, .unset, .unset] [(.int (1 : Int32))])) (fun _ k => XS.iload X3047.here hx rfl (hb hby at_179) rfl k) ?_
                    refine own_step (f' := (mkF m 254 #[.val (.int i1), .val (.int i2), .val (.int i3), .val (.int v3_2_s0), .val (.int v15_4_s0), .val (.int v29_6_s0), .val (.int v40_8_s0), .val (.ref b2021), .val (.ref b3034), .val (.ref b3040), .val (.int v148_3046_s0), .val (.int (1 : Int32)), .unset, .unset, .unset] [])) (fun _ k => XS.ifYes X3047.here hx rfl (pc0 := 181) (pc' := 254) rfl (hb hby at_181) rfl ((if0 _ _).trans (feq (by decide : ¬ ((1 : Int32) = (0 : Int32)))).2) (by decide) (by decide) k) ?_
                    refine own_step (f' := (mkF m 255 #[.val (.int i1), .val (.int i2), .val (.int i3), .val (.int v3_2_s0), .val (.int v15_4_s0), .val (.int v29_6_s0), .val (.int v40_8_s0), .val (.ref b2021), .val (.ref b3034), .val (.ref b3040), .val (.int v148_3046_s0), .val (.int (1 : Int32)), .unset, .unset, .unset] [(.int (1 : Int32))])) (fun _ k => XS.iconst X3047.here hx rfl (hb hby at_254) k) ?_
                    refine own_out (v := some (.int (1 : Int32))) X3047 hlk (fun h => by rw [Bd.returns] at h; cases h) (fun fs hr => retN X3047 hx (t := .boolean) Bd.returns (by simp) (hb hby at_255) hr) (by decide) (by decide) ?_
                    exact ⟨rfl, N3043⟩
                  by_cases hc148_3044 : v40_8_s0 = (-1 : Int32)
                  · refine own_step (f' := (mkF m 151 #[.val (.int i1), .val (.int i2), .val (.int i3), .val (.int v3_2_s0), .val (.int v15_4_s0), .val (.int v29_6_s0), .val (.int v40_8_s0), .val (.ref b2021), .val (.ref b3034), .val (.ref b3040), .unset, .unset, .unset, .unset, .unset] [])) (fun _ k => XS.icmpNo X3043.here hx rfl (hb hby at_148) rfl (teq hc148_3044).2 k) ?_
                    refine own_step (f' := (mkF m 153 #[.val (.int i1), .val (.int i2), .val (.int i3), .val (.int v3_2_s0), .val (.int v15_4_s0), .val (.int v29_6_s0), .val (.int v40_8_s0), .val (.ref b2021), .val (.ref b3034), .val (.ref b3040), .unset, .unset, .unset, .unset, .unset] [(.int v15_4_s0)])) (fun _ k => XS.iload X3043.here hx rfl (hb hby at_151) rfl k) ?_
                    by_cases hc153_4045 : v15_4_s0 = (0 : Int32)
                    · refine own_step (f' := (mkF m 160 #[.val (.int i1), .val (.int i2), .val (.int i3), .val (.int v3_2_s0), .val (.int v15_4_s0), .val (.int v29_6_s0), .val (.int v40_8_s0), .val (.ref b2021), .val (.ref b3034), .val (.ref b3040), .unset, .unset, .unset, .unset, .unset] [])) (fun _ k => XS.ifYes X3043.here hx rfl (pc0 := 153) (pc' := 160) rfl (hb hby at_153) rfl ((if0 _ _).trans (teq hc153_4045).1) (by decide) (by decide) k) ?_
                      refine own_step (f' := (mkF m 161 #[.val (.int i1), .val (.int i2), .val (.int i3), .val (.int v3_2_s0), .val (.int v15_4_s0), .val (.int v29_6_s0), .val (.int v40_8_s0), .val (.ref b2021), .val (.ref b3034), .val (.ref b3040), .unset, .unset, .unset, .unset, .unset] [(.int (0 : Int32))])) (fun _ k => XS.iconst X3043.here hx rfl (hb hby at_160) k) ?_
                      exact J148_3046 _ (0 : Int32) X3043 rfl (by rw [if_pos hc148_3044, if_pos hc153_4045])
                    · refine own_step (f' := (mkF m 156 #[.val (.int i1), .val (.int i2), .val (.int i3), .val (.int v3_2_s0), .val (.int v15_4_s0), .val (.int v29_6_s0), .val (.int v40_8_s0), .val (.ref b2021), .val (.ref b3034), .val (.ref b3040), .unset, .unset, .unset, .unset, .unset] [])) (fun _ k => XS.ifNo X3043.here hx rfl (hb hby at_153) rfl ((if0 _ _).trans (feq hc153_4045).1) k) ?_
                      refine own_step (f' := (mkF m 157 #[.val (.int i1), .val (.int i2), .val (.int i3), .val (.int v3_2_s0), .val (.int v15_4_s0), .val (.int v29_6_s0), .val (.int v40_8_s0), .val (.ref b2021), .val (.ref b3034), .val (.ref b3040), .unset, .unset, .unset, .unset, .unset] [(.int (1 : Int32))])) (fun _ k => XS.iconst X3043.here hx rfl (hb hby at_156) k) ?_
                      refine own_step (f' := (mkF m 161 #[.val (.int i1), .val (.int i2), .val (.int i3), .val (.int v3_2_s0), .val (.int v15_4_s0), .val (.int v29_6_s0), .val (.int v40_8_s0), .val (.ref b2021), .val (.ref b3034), .val (.ref b3040), .unset, .unset, .unset, .unset, .unset] [(.int (1 : Int32))])) (fun _ k => XS.goto X3043.here hx rfl (pc0 := 157) (pc' := 161) rfl (hb hby at_157) (by decide) (by decide) k) ?_
                      exact J148_3046 _ (1 : Int32) X3043 rfl (by rw [if_pos hc148_3044, if_neg hc153_4045])
                  · refine own_step (f' := (mkF m 156 #[.val (.int i1), .val (.int i2), .val (.int i3), .val (.int v3_2_s0), .val (.int v15_4_s0), .val (.int v29_6_s0), .val (.int v40_8_s0), .val (.ref b2021), .val (.ref b3034), .val (.ref b3040), .unset, .unset, .unset, .unset, .unset] [])) (fun _ k => XS.icmpYes X3043.here hx rfl (pc0 := 148) (pc' := 156) rfl (hb hby at_148) rfl (feq hc148_3044).2 (by decide) (by decide) k) ?_
                    refine own_step (f' := (mkF m 157 #[.val (.int i1), .val (.int i2), .val (.int i3), .val (.int v3_2_s0), .val (.int v15_4_s0), .val (.int v29_6_s0), .val (.int v40_8_s0), .val (.ref b2021), .val (.ref b3034), .val (.ref b3040), .unset, .unset, .unset, .unset, .unset] [(.int (1 : Int32))])) (fun _ k => XS.iconst X3043.here hx rfl (hb hby at_156) k) ?_
                    refine own_step (f' := (mkF m 161 #[.val (.int i1), .val (.int i2), .val (.int i3), .val (.int v3_2_s0), .val (.int v15_4_s0), .val (.int v29_6_s0), .val (.int v40_8_s0), .val (.ref b2021), .val (.ref b3034), .val (.ref b3040), .unset, .unset, .unset, .unset, .unset] [(.int (1 : Int32))])) (fun _ k => XS.goto X3043.here hx rfl (pc0 := 157) (pc' := 161) rfl (hb hby at_157) (by decide) (by decide) k) ?_
                    exact J148_3046 _ (1 : Int32) X3043 rfl (by rw [if_neg hc148_3044])
                by_cases hc106_3037 : (i2 &&& (16 : Int32)) = (0 : Int32)
                · refine own_step (f' := (mkF m 113 #[.val (.int i1), .val (.int i2), .val (.int i3), .val (.int v3_2_s0), .val (.int v15_4_s0), .val (.int v29_6_s0), .val (.int v40_8_s0), .val (.ref b2021), .unset, .unset, .unset, .unset, .unset, .unset, .unset] [(.ref b3035), (.ref b3034), (.ref b3034)])) (fun _ k => XS.ifYes X3036.here hx rfl (pc0 := 106) (pc' := 113) rfl (hb hby at_106) rfl ((if0 _ _).trans (teq hc106_3037).1) (by decide) (by decide) k) ?_
                  refine own_step (f' := (mkF m 114 #[.val (.int i1), .val (.int i2), .val (.int i3), .val (.int v3_2_s0), .val (.int v15_4_s0), .val (.int v29_6_s0), .val (.int v40_8_s0), .val (.ref b2021), .unset, .unset, .unset, .unset, .unset, .unset, .unset] [(.int (0 : Int32)), (.ref b3035), (.ref b3034), (.ref b3034)])) (fun _ k => XS.iconst X3036.here hx rfl (hb hby at_113) k) ?_
                  exact J106_3038 _ (0 : Int32) X3036 rfl (by rw [if_pos hc106_3037])
                · refine own_step (f' := (mkF m 109 #[.val (.int i1), .val (.int i2), .val (.int i3), .val (.int v3_2_s0), .val (.int v15_4_s0), .val (.int v29_6_s0), .val (.int v40_8_s0), .val (.ref b2021), .unset, .unset, .unset, .unset, .unset, .unset, .unset] [(.ref b3035), (.ref b3034), (.ref b3034)])) (fun _ k => XS.ifNo X3036.here hx rfl (hb hby at_106) rfl ((if0 _ _).trans (feq hc106_3037).1) k) ?_
                  refine own_step (f' := (mkF m 110 #[.val (.int i1), .val (.int i2), .val (.int i3), .val (.int v3_2_s0), .val (.int v15_4_s0), .val (.int v29_6_s0), .val (.int v40_8_s0), .val (.ref b2021), .unset, .unset, .unset, .unset, .unset, .unset, .unset] [(.int (1 : Int32)), (.ref b3035), (.ref b3034), (.ref b3034)])) (fun _ k => XS.iconst X3036.here hx rfl (hb hby at_109) k) ?_
                  refine own_step (f' := (mkF m 114 #[.val (.int i1), .val (.int i2), .val (.int i3), .val (.int v3_2_s0), .val (.int v15_4_s0), .val (.int v29_6_s0), .val (.int v40_8_s0), .val (.ref b2021), .unset, .unset, .unset, .unset, .unset, .unset, .unset] [(.int (1 : Int32)), (.ref b3035), (.ref b3034), (.ref b3034)])) (fun _ k => XS.goto X3036.here hx rfl (pc0 := 110) (pc' := 114) rfl (hb hby at_110) (by decide) (by decide) k) ?_
                  exact J106_3038 _ (1 : Int32) X3036 rfl (by rw [if_neg hc106_3037])
            by_cases hc69_2024 : (i2 &&& (4 : Int32)) = (0 : Int32)
            · refine own_step (f' := (mkF m 76 #[.val (.int i1), .val (.int i2), .val (.int i3), .val (.int v3_2_s0), .val (.int v15_4_s0), .val (.int v29_6_s0), .val (.int v40_8_s0), .unset, .unset, .unset, .unset, .unset, .unset, .unset, .unset] [(.ref b2022), (.ref b2021), (.ref b2021)])) (fun _ k => XS.ifYes X2023.here hx rfl (pc0 := 69) (pc' := 76) rfl (hb hby at_69) rfl ((if0 _ _).trans (teq hc69_2024).1) (by decide) (by decide) k) ?_
              refine own_step (f' := (mkF m 77 #[.val (.int i1), .val (.int i2), .val (.int i3), .val (.int v3_2_s0), .val (.int v15_4_s0), .val (.int v29_6_s0), .val (.int v40_8_s0), .unset, .unset, .unset, .unset, .unset, .unset, .unset, .unset] [(.int (0 : Int32)), (.ref b2022), (.ref b2021), (.ref b2021)])) (fun _ k => XS.iconst X2023.here hx rfl (hb hby at_76) k) ?_
              exact J69_2025 _ (0 : Int32) X2023 rfl (by rw [if_pos hc69_2024])
            · refine own_step (f' := (mkF m 72 #[.val (.int i1), .val (.int i2), .val (.int i3), .val (.int v3_2_s0), .val (.int v15_4_s0), .val (.int v29_6_s0), .val (.int v40_8_s0), .unset, .unset, .unset, .unset, .unset, .unset, .unset, .unset] [(.ref b2022), (.ref b2021), (.ref b2021)])) (fun _ k => XS.ifNo X2023.here hx rfl (hb hby at_69) rfl ((if0 _ _).trans (feq hc69_2024).1) k) ?_
              refine own_step (f' := (mkF m 73 #[.val (.int i1), .val (.int i2), .val (.int i3), .val (.int v3_2_s0), .val (.int v15_4_s0), .val (.int v29_6_s0), .val (.int v40_8_s0), .unset, .unset, .unset, .unset, .unset, .unset, .unset, .unset] [(.int (1 : Int32)), (.ref b2022), (.ref b2021), (.ref b2021)])) (fun _ k => XS.iconst X2023.here hx rfl (hb hby at_72) k) ?_
              refine own_step (f' := (mkF m 77 #[.val (.int i1), .val (.int i2), .val (.int i3), .val (.int v3_2_s0), .val (.int v15_4_s0), .val (.int v29_6_s0), .val (.int v40_8_s0), .unset, .unset, .unset, .unset, .unset, .unset, .unset, .unset] [(.int (1 : Int32)), (.ref b2022), (.ref b2021), (.ref b2021)])) (fun _ k => XS.goto X2023.here hx rfl (pc0 := 73) (pc' := 77) rfl (hb hby at_73) (by decide) (by decide) k) ?_
              exact J69_2025 _ (1 : Int32) X2023 rfl (by rw [if_neg hc69_2024])
        by_cases hc40_7 : v3_2_s0 = (0 : Int32)
        · refine own_step (f' := (mkF m 47 #[.val (.int i1), .val (.int i2), .val (.int i3), .val (.int v3_2_s0), .val (.int v15_4_s0), .val (.int v29_6_s0), .unset, .unset, .unset, .unset, .unset, .unset, .unset, .unset, .unset] [])) (fun _ k => XS.ifYes X29_6.here hx rfl (pc0 := 40) (pc' := 47) rfl (hb hby at_40) rfl ((if0 _ _).trans (teq hc40_7).1) (by decide) (by decide) k) ?_
          refine own_step (f' := (mkF m 48 #[.val (.int i1), .val (.int i2), .val (.int i3), .val (.int v3_2_s0), .val (.int v15_4_s0), .val (.int v29_6_s0), .unset, .unset, .unset, .unset, .unset, .unset, .unset, .unset, .unset] [(.int i1)])) (fun _ k => XS.iloadN X29_6.here hx rfl (hb hby at_47) rfl k) ?_
          exact J40_8 _ i1 X29_6 e29_6 (by rw [if_pos hc40_7])
        · refine own_step (f' := (mkF m 43 #[.val (.int i1), .val (.int i2), .val (.int i3), .val (.int v3_2_s0), .val (.int v15_4_s0), .val (.int v29_6_s0), .unset, .unset, .unset, .unset, .unset, .unset, .unset, .unset, .unset] [])) (fun _ k => XS.ifNo X29_6.here hx rfl (hb hby at_40) rfl ((if0 _ _).trans (feq hc40_7).1) k) ?_
          refine own_step (f' := (mkF m 44 #[.val (.int i1), .val (.int i2), .val (.int i3), .val (.int v3_2_s0), .val (.int v15_4_s0), .val (.int v29_6_s0), .unset, .unset, .unset, .unset, .unset, .unset, .unset, .unset, .unset] [(.int (-1 : Int32))])) (fun _ k => XS.iconst X29_6.here hx rfl (hb hby at_43) k) ?_
          refine own_step (f' := (mkF m 48 #[.val (.int i1), .val (.int i2), .val (.int i3), .val (.int v3_2_s0), .val (.int v15_4_s0), .val (.int v29_6_s0), .unset, .unset, .unset, .unset, .unset, .unset, .unset, .unset, .unset] [(.int (-1 : Int32))])) (fun _ k => XS.goto X29_6.here hx rfl (pc0 := 44) (pc' := 48) rfl (hb hby at_44) (by decide) (by decide) k) ?_
          exact J40_8 _ (-1 : Int32) X29_6 e29_6 (by rw [if_neg hc40_7])
      by_cases hc29_5 : (i2 &&& (8 : Int32)) = (0 : Int32)
      · refine own_step (f' := (mkF m 36 #[.val (.int i1), .val (.int i2), .val (.int i3), .val (.int v3_2_s0), .val (.int v15_4_s0), .unset, .unset, .unset, .unset, .unset, .unset, .unset, .unset, .unset, .unset] [])) (fun _ k => XS.ifYes X15_4.here hx rfl (pc0 := 29) (pc' := 36) rfl (hb hby at_29) rfl ((if0 _ _).trans (teq hc29_5).1) (by decide) (by decide) k) ?_
        refine own_step (f' := (mkF m 37 #[.val (.int i1), .val (.int i2), .val (.int i3), .val (.int v3_2_s0), .val (.int v15_4_s0), .unset, .unset, .unset, .unset, .unset, .unset, .unset, .unset, .unset, .unset] [(.int (0 : Int32))])) (fun _ k => XS.iconst X15_4.here hx rfl (hb hby at_36) k) ?_
        exact J29_6 _ (0 : Int32) X15_4 e15_4 (by rw [if_pos hc29_5])
      · refine own_step (f' := (mkF m 32 #[.val (.int i1), .val (.int i2), .val (.int i3), .val (.int v3_2_s0), .val (.int v15_4_s0), .unset, .unset, .unset, .unset, .unset, .unset, .unset, .unset, .unset, .unset] [])) (fun _ k => XS.ifNo X15_4.here hx rfl (hb hby at_29) rfl ((if0 _ _).trans (feq hc29_5).1) k) ?_
        refine own_step (f' := (mkF m 33 #[.val (.int i1), .val (.int i2), .val (.int i3), .val (.int v3_2_s0), .val (.int v15_4_s0), .unset, .unset, .unset, .unset, .unset, .unset, .unset, .unset, .unset, .unset] [(.int (1 : Int32))])) (fun _ k => XS.iconst X15_4.here hx rfl (hb hby at_32) k) ?_
        refine own_step (f' := (mkF m 37 #[.val (.int i1), .val (.int i2), .val (.int i3), .val (.int v3_2_s0), .val (.int v15_4_s0), .unset, .unset, .unset, .unset, .unset, .unset, .unset, .unset, .unset, .unset] [(.int (1 : Int32))])) (fun _ k => XS.goto X15_4.here hx rfl (pc0 := 33) (pc' := 37) rfl (hb hby at_33) (by decide) (by decide) k) ?_
        exact J29_6 _ (1 : Int32) X15_4 e15_4 (by rw [if_neg hc29_5])
    by_cases hc15_3 : (i2 &&& (2 : Int32)) = (0 : Int32)
    · refine own_step (f' := (mkF m 22 #[.val (.int i1), .val (.int i2), .val (.int i3), .val (.int v3_2_s0), .unset, .unset, .unset, .unset, .unset, .unset, .unset, .unset, .unset, .unset, .unset] [])) (fun _ k => XS.ifYes X3_2.here hx rfl (pc0 := 15) (pc' := 22) rfl (hb hby at_15) rfl ((if0 _ _).trans (teq hc15_3).1) (by decide) (by decide) k) ?_
      refine own_step (f' := (mkF m 23 #[.val (.int i1), .val (.int i2), .val (.int i3), .val (.int v3_2_s0), .unset, .unset, .unset, .unset, .unset, .unset, .unset, .unset, .unset, .unset, .unset] [(.int (0 : Int32))])) (fun _ k => XS.iconst X3_2.here hx rfl (hb hby at_22) k) ?_
      exact J15_4 _ (0 : Int32) X3_2 e3_2 (by rw [if_pos hc15_3])
    · refine own_step (f' := (mkF m 18 #[.val (.int i1), .val (.int i2), .val (.int i3), .val (.int v3_2_s0), .unset, .unset, .unset, .unset, .unset, .unset, .unset, .unset, .unset, .unset, .unset] [])) (fun _ k => XS.ifNo X3_2.here hx rfl (hb hby at_15) rfl ((if0 _ _).trans (feq hc15_3).1) k) ?_
      refine own_step (f' := (mkF m 19 #[.val (.int i1), .val (.int i2), .val (.int i3), .val (.int v3_2_s0), .unset, .unset, .unset, .unset, .unset, .unset, .unset, .unset, .unset, .unset, .unset] [(.int (1 : Int32))])) (fun _ k => XS.iconst X3_2.here hx rfl (hb hby at_18) k) ?_
      refine own_step (f' := (mkF m 23 #[.val (.int i1), .val (.int i2), .val (.int i3), .val (.int v3_2_s0), .unset, .unset, .unset, .unset, .unset, .unset, .unset, .unset, .unset, .unset, .unset] [(.int (1 : Int32))])) (fun _ k => XS.goto X3_2.here hx rfl (pc0 := 19) (pc' := 23) rfl (hb hby at_19) (by decide) (by decide) k) ?_
      exact J15_4 _ (1 : Int32) X3_2 e3_2 (by rw [if_neg hc15_3])
  by_cases hc3_1 : (i2 &&& (1 : Int32)) = (0 : Int32)
  · refine own_step (f' := (mkF m 10 #[.val (.int i1), .val (.int i2), .val (.int i3), .unset, .unset, .unset, .unset, .unset, .unset, .unset, .unset, .unset, .unset, .unset, .unset] [])) (fun _ k => XS.ifYes X0.here hx rfl (pc0 := 3) (pc' := 10) rfl (hb hby at_3) rfl ((if0 _ _).trans (teq hc3_1).1) (by decide) (by decide) k) ?_
    refine own_step (f' := (mkF m 11 #[.val (.int i1), .val (.int i2), .val (.int i3), .unset, .unset, .unset, .unset, .unset, .unset, .unset, .unset, .unset, .unset, .unset, .unset] [(.int (0 : Int32))])) (fun _ k => XS.iconst X0.here hx rfl (hb hby at_10) k) ?_
    exact J3_2 _ (0 : Int32) X0 e0 (by rw [if_pos hc3_1])
  · refine own_step (f' := (mkF m 6 #[.val (.int i1), .val (.int i2), .val (.int i3), .unset, .unset, .unset, .unset, .unset, .unset, .unset, .unset, .unset, .unset, .unset, .unset] [])) (fun _ k => XS.ifNo X0.here hx rfl (hb hby at_3) rfl ((if0 _ _).trans (feq hc3_1).1) k) ?_
    refine own_step (f' := (mkF m 7 #[.val (.int i1), .val (.int i2), .val (.int i3), .unset, .unset, .unset, .unset, .unset, .unset, .unset, .unset, .unset, .unset, .unset, .unset] [(.int (1 : Int32))])) (fun _ k => XS.iconst X0.here hx rfl (hb hby at_6) k) ?_
    refine own_step (f' := (mkF m 11 #[.val (.int i1), .val (.int i2), .val (.int i3), .unset, .unset, .unset, .unset, .unset, .unset, .unset, .unset, .unset, .unset, .unset, .unset] [(.int (1 : Int32))])) (fun _ k => XS.goto X0.here hx rfl (pc0 := 7) (pc' := 11) rfl (hb hby at_7) (by decide) (by decide) k) ?_
    exact J3_2 _ (1 : Int32) X0 e0 (by rw [if_neg hc3_1])
set_option maxRecDepth 65536 in
set_option maxHeartbeats 40000000 in
theorem comes_1 {Post : Tables → Env → Array Value → State → Outcome → State → Prop} (hpost : ∀ tb e args s v u, (limb_1_1.after args s (.returned v) u = true ∧ limb_1_2.after args s (.returned v) u = true ∧ True) → FrameEnd s (.returned v) u (Jvm.fieldLocs frame_1_writes args s ++ Jvm.arrayLocs frame_1_arrays args s ++ Jvm.staticLocs frame_1_statics s) 24 128 → Post tb e args s (.returned v) u) :
    ArmFor flags0 classFile x code maxLocals ret World_1 tables_1 room_1 Calls_1 rest_1 Pre_1 Post := by
  intro l hfl _ _ p e ha hc hk s m args below hf hA hF happ hP
  obtain ⟨hcalls, hrest, hpre⟩ := hP
  obtain ⟨-, -, -, hnamed, -, -, -, hat⟩ := (Spec.applies_iff hf).mp happ
  obtain ⟨hg, hn⟩ := and_e (Cond.before_iff.mp (show (Jvm.Cond.and given_1 narrow_1).before args s = true from hpre))
  obtain ⟨gq1, gq2⟩ := and_e hg
  obtain ⟨gq3, gq4⟩ := and_e gq2
  obtain ⟨gq5, gq6⟩ := and_e gq4
  obtain ⟨w0, w1, w2, rfl⟩ : ∃ w0 w1 w2 : Value, args = #[w0, w1, w2] := by
    have hs : args.size = 3 := by simpa [Cond.value, given_1] using gq1
    obtain ⟨L⟩ := args
    match L, hs with
    | [w0, w1, w2], _ => exact ⟨w0, w1, w2, rfl⟩
  have hw := fun d (hd : d ∈ tables_1) => atoms_spec (ws := Jvm.Cond.code x code maxLocals ret :: tables_1) hat d (List.mem_cons_of_mem _ hd)
  have hfit : Fit s := fun {y c} hc i hi => by
    obtain ⟨ha, rfl⟩ := Array.getElem?_eq_some_iff.mp hc
    have q := List.all_eq_true.mp ((Array.all_eq_true_iff_forall_mem.mp hF) _ (Array.getElem_mem ha)) i (List.mem_range.mpr hi)
    simpa [Array.getElem?_eq_getElem hi] using q
  obtain ⟨hsets, hown0⟩ := atoms_of _ (rest_1_c_eq ▸ (show rest_1_c.before _ s = true from hrest))
  have hr0 := Cond.before_iff.mp hown0
  obtain ⟨i0, ei0⟩ := is_v gq3
  obtain rfl : w0 = (.int i0) := Option.some.inj ei0
  obtain ⟨i1, ei1⟩ := is_v gq5
  obtain rfl : w1 = (.int i1) := Option.some.inj ei1
  obtain ⟨i2, ei2⟩ := is_v gq6
  obtain rfl : w2 = (.int i2) := Option.some.inj ei2
  obtain ⟨w1, hw1⟩ := arr_v (Cond.before_iff.mp (hsets _ (List.mem_of_getElem? (i := 6) rfl)))
  have S1 : Sta s s.heap "java/util/ArrayList" "DEFAULTCAPACITY_EMPTY_ELEMENTDATA" "[Ljava/lang/Object;" (.ref w1) := Sta.start hw1 (Or.inr ⟨(hw _ (List.mem_of_getElem? (i := 5) rfl)), hsets _ (List.mem_of_getElem? (i := 2) rfl)⟩)
  obtain ⟨n, o, h1, h2, h3, _, L, rfl, ⟨rfl, N⟩, hq⟩ := rm0 l s _ hw tables_1 i0 i1 i2 w1 s.heap s.heap.size (Nat.le_refl _) S1 p e ha hc hk s m _ below hf ((Spec.applies_iff_loose hf).mp happ).1 ⟨rfl, State.Warmed39.refl s, rfl⟩ trivial
  refine ⟨n, _, h1, h2, h3, hpost _ _ _ _ _ _ ⟨Cond.after_iff.mpr rfl, Cond.after_iff.mpr (eq_i res_at (Term.int_eval (1)) rfl), trivial⟩ ⟨hq.1, hq.2.1, (hq.2.2.sift fun y hy => Or.inr (N y hy)).mono (by decide) (by decide)⟩⟩
theorem main_1_1 : Claimed_1_1 := comes_1 fun _ _ _ _ _ _ h hF => ⟨h.1, hF⟩
theorem main_1_2 : Claimed_1_2 := comes_1 fun _ _ _ _ _ _ h hF => ⟨h.2.1, hF⟩
end Jvm.Pilot.@@N@@
namespace Jvm.Pilot.@@N@@
open Jvm Jvm.ClassFile Sem Op Lib Jvm.Free Jvm.Stand Jvm.Pilot.@@N@@.Jvm.D
/-! MADE BY PROGRAM (witnessworld.py) out of the Statement's table words and the real class files: 21 classes; the members and pool entries that the words name. The judged class is class 1, her method 1. -/
namespace start1
open Jvm.ClassFile
def u (s : String) : CpInfo := .utf8 (stringToUtf16 s)
/-- a pool by its gaps: so many unusable entries, then the entry; so many at the end -/
def gap : Nat → List CpInfo → List CpInfo
  | 0, r => r
  | n + 1, r => .unusable :: gap n r
def poolList (es : List (Nat × CpInfo)) (last : Nat) : List CpInfo := es.foldr (fun e r => gap e.1 (e.2 :: r)) (gap last [])
def pool (es : List (Nat × CpInfo)) (last : Nat) : Array CpInfo := ⟨poolList es last⟩
def fileOf (pool : Array CpInfo) (this : Nat) (attrs : Array Attribute := #[]) (ms : Array MethodInfo := #[]) (fl : Nat := 33) (sup : Nat := 0) (ifs : Array Nat := #[]) (fds : Array FieldInfo := #[]) : ClassFile where
  minorVersion := 0
  majorVersion := 65
  constantPool := pool
  accessFlags := fl
  thisClass := this
  superClass := sup
  interfaces := ifs
  fields := fds
  methods := ms
  attributes := attrs
def plain (name : String) (sup : Option ClassId) : Class where
  name := name
  kind := .ordinary
  loader := none
  accessFlags := 33
  super := sup
  interfaces := #[]
  cf := none
  fields := #[]
  methods := #[]
  instanceTypes := #[]
  staticTypes := #[]
  resolved := #[]
  callSites := []
  init := .initialized
  statics := none
  mirror := none

def pool0 : Array CpInfo := pool [(5, u "<init>"), (0, u "()V"), (1, .class_ 10), (1, u "java/lang/Object")] 113

def k0c0 : Code := { maxStack := 0, maxLocals := 1, code := object_method_1_code, exceptionTable := #[], attributes := #[] }
def k0m0 : Method := { name := "<init>", desc := "()V", sig := { parameters := [], returnType := none }, accessFlags := 1, code := some k0c0 }
/-- java/lang/Object -/
def k0 : Class := { plain "java/lang/Object" none with
  accessFlags := 33
  interfaces := #[]
  cf := some (fileOf pool0 8 #[] #[{ accessFlags := 1, nameIndex := 5, descriptorIndex := 6, attributes := #[] }] 33 0 #[] #[])
  fields := #[]
  methods := #[k0m0]
  instanceTypes := #[]
  staticTypes := #[]
  resolved := Array.replicate 124 none
  statics := none }

def pool1 : Array CpInfo := pool [(2, .class_ 4), (0, .nameAndType 5 6), (0, u "java/lang/Object"), (0, u "<init>"), (0, u "()V"), (0, .class_ 8), (0, u "wayfarer/process/RepeatStep"), (0, .class_ 10), (0, u "wayfarer/process/RepeatStep$Condition"), (0, .class_ 12), (0, u "java/util/ArrayList"), (0, .methodref 11 3), (0, .methodref 9 15), (0, .nameAndType 5 16), (0, u "(Ljava/util/List;Z)V"), (0, .methodref 7 18), (0, .nameAndType 5 19), (0, u "(Ljava/util/List;ILwayfarer/process/RepeatStep$Condition;Lwayfarer/process/RepeatStep$Condition;)V"), (0, .methodref 7 21), (0, .nameAndType 22 23), (0, u "stops"), (0, u "()Z"), (0, .integer 2147483647), (0, .methodref 7 26), (0, .nameAndType 27 28), (0, u "withTimes"), (0, u "(I)Lwayfarer/process/RepeatStep;"), (0, .methodref 7 30), (0, .nameAndType 31 32), (0, u "withUntil"), (0, u "(Lwayfarer/process/RepeatStep$Condition;)Lwayfarer/process/RepeatStep;"), (0, .class_ 34), (0, u "wayfarer/process/RepeatStepStopsPinLaw"), (2, u "law"), (0, u "(III)Z")] 5

def k1m0 : Method := { name := "<init>", desc := "()V", sig := { parameters := [], returnType := none }, accessFlags := 2, code := none }
def k1c1 : Code := { maxStack := 6, maxLocals := 15, code := code, exceptionTable := #[], attributes := #[] }
def k1m1 : Method := { name := "law", desc := "(III)Z", sig := { parameters := [.int, .int, .int], returnType := some .boolean }, accessFlags := 9, code := some k1c1 }
/-- wayfarer/process/RepeatStepStopsPinLaw -/
def k1 : Class := { plain "wayfarer/process/RepeatStepStopsPinLaw" (some 0) with
  accessFlags := 49
  interfaces := #[]
  cf := some (fileOf pool1 33 #[] #[{ accessFlags := 2, nameIndex := 5, descriptorIndex := 6, attributes := #[] }, { accessFlags := 9, nameIndex := 37, descriptorIndex := 38, attributes := #[] }] 49 2 #[] #[])
  fields := #[]
  methods := #[k1m0, k1m1]
  instanceTypes := #[]
  staticTypes := #[]
  resolved := Array.replicate 44 none
  statics := none }

def pool2 : Array CpInfo := pool [(1, .methodref 2 3), (0, .class_ 4), (0, .nameAndType 5 6), (0, u "java/lang/Object"), (0, u "<init>"), (0, u "()V"), (0, .class_ 8), (0, u "java/lang/Record")] 13

def k2c0 : Code := { maxStack := 1, maxLocals := 1, code := jdk_30_method_1_code, exceptionTable := #[], attributes := #[] }
def k2m0 : Method := { name := "<init>", desc := "()V", sig := { parameters := [], returnType := none }, accessFlags := 4, code := some k2c0 }
/-- java/lang/Record -/
def k2 : Class := { plain "java/lang/Record" (some 0) with
  accessFlags := 1057
  interfaces := #[]
  cf := some (fileOf pool2 7 #[] #[{ accessFlags := 4, nameIndex := 5, descriptorIndex := 6, attributes := #[] }] 1057 2 #[] #[])
  fields := #[]
  methods := #[k2m0]
  instanceTypes := #[]
  staticTypes := #[]
  resolved := Array.replicate 22 none
  statics := none }

def pool3 : Array CpInfo := pool [(1, .methodref 2 3), (0, .class_ 4), (0, .nameAndType 5 6), (0, u "java/lang/Record"), (0, u "<init>"), (0, u "()V"), (0, .fieldref 8 9), (0, .class_ 10), (0, .nameAndType 11 12), (0, u "wayfarer/process/RepeatStep$Condition"), (0, u "steps"), (0, u "Ljava/util/List;"), (0, .fieldref 8 14), (0, .nameAndType 15 16), (0, u "ahead"), (0, u "Z"), (14, u "(Ljava/util/List;Z)V"), (13, .class_ 46), (0, u "wayfarer/process/RepeatStep")] 20

def k3c0 : Code := { maxStack := 2, maxLocals := 3, code := prog_135_method_1_code, exceptionTable := #[], attributes := #[] }
def k3m0 : Method := { name := "<init>", desc := "(Ljava/util/List;Z)V", sig := { parameters := [(.object "java/util/List"), .boolean], returnType := none }, accessFlags := 0, code := some k3c0 }
/-- wayfarer/process/RepeatStep$Condition -/
def k3 : Class := { plain "wayfarer/process/RepeatStep$Condition" (some 2) with
  accessFlags := 48
  interfaces := #[]
  cf := some (fileOf pool3 8 #[.nestHost 45] #[{ accessFlags := 0, nameIndex := 5, descriptorIndex := 31, attributes := #[] }] 48 2 #[] #[{ accessFlags := 18, nameIndex := 11, descriptorIndex := 12, attributes := #[] }, { accessFlags := 18, nameIndex := 15, descriptorIndex := 16, attributes := #[] }])
  fields := #[{ name := "steps", type := (.object "java/util/List"), accessFlags := 18, slot := 0, constantValue := 0 }, { name := "ahead", type := .boolean, accessFlags := 18, slot := 1, constantValue := 0 }]
  methods := #[k3m0]
  instanceTypes := #[(.object "java/util/List"), .boolean]
  staticTypes := #[]
  resolved := Array.replicate 67 none
  statics := none }

def pool4 : Array CpInfo := pool [(8, .class_ 10), (1, u "java/lang/Iterable"), (24, .class_ 36), (0, u "java/lang/Object")] 25

/-- java/lang/Iterable -/
def k4 : Class := { plain "java/lang/Iterable" (some 0) with
  accessFlags := 1537
  interfaces := #[]
  cf := some (fileOf pool4 8 #[] #[] 1537 35 #[] #[])
  fields := #[]
  methods := #[]
  instanceTypes := #[]
  staticTypes := #[]
  resolved := Array.replicate 62 none
  statics := none }

def pool5 : Array CpInfo := pool [(10, .class_ 12), (1, u "java/util/Collection"), (47, .class_ 61), (0, u "java/lang/Object"), (0, .class_ 63), (0, u "java/lang/Iterable")] 51

/-- java/util/Collection -/
def k5 : Class := { plain "java/util/Collection" (some 0) with
  accessFlags := 1537
  interfaces := #[4]
  cf := some (fileOf pool5 10 #[] #[] 1537 60 #[62] #[])
  fields := #[]
  methods := #[]
  instanceTypes := #[]
  staticTypes := #[]
  resolved := Array.replicate 115 none
  statics := none }

def pool6 : Array CpInfo := pool [(1, .methodref 2 3), (0, .class_ 4), (0, .nameAndType 5 6), (0, u "java/lang/Object"), (0, u "<init>"), (0, u "()V"), (1, .class_ 10), (1, u "java/util/AbstractCollection"), (66, .class_ 78), (0, u "java/util/Collection")] 81

def k6c0 : Code := { maxStack := 1, maxLocals := 1, code := jdk_22_method_1_code, exceptionTable := #[], attributes := #[] }
def k6m0 : Method := { name := "<init>", desc := "()V", sig := { parameters := [], returnType := none }, accessFlags := 4, code := some k6c0 }
/-- java/util/AbstractCollection -/
def k6 : Class := { plain "java/util/AbstractCollection" (some 0) with
  accessFlags := 1057
  interfaces := #[5]
  cf := some (fileOf pool6 8 #[] #[{ accessFlags := 4, nameIndex := 5, descriptorIndex := 6, attributes := #[] }] 1057 2 #[77] #[])
  fields := #[]
  methods := #[k6m0]
  instanceTypes := #[]
  staticTypes := #[]
  resolved := Array.replicate 160 none
  statics := none }

def pool7 : Array CpInfo := pool [(8, .class_ 10), (1, u "java/util/SequencedCollection"), (15, .class_ 27), (0, u "java/lang/Object"), (0, .class_ 29), (0, u "java/util/Collection")] 27

/-- java/util/SequencedCollection -/
def k7 : Class := { plain "java/util/SequencedCollection" (some 0) with
  accessFlags := 1537
  interfaces := #[5]
  cf := some (fileOf pool7 8 #[] #[] 1537 26 #[28] #[])
  fields := #[]
  methods := #[]
  instanceTypes := #[]
  staticTypes := #[]
  resolved := Array.replicate 57 none
  statics := none }

def pool8 : Array CpInfo := pool [(8, .class_ 10), (1, u "java/util/List"), (92, .class_ 104), (0, u "java/lang/Object"), (15, .class_ 121), (0, u "java/util/SequencedCollection")] 129

/-- java/util/List -/
def k8 : Class := { plain "java/util/List" (some 0) with
  accessFlags := 1537
  interfaces := #[7]
  cf := some (fileOf pool8 8 #[] #[] 1537 103 #[120] #[])
  fields := #[]
  methods := #[]
  instanceTypes := #[]
  staticTypes := #[]
  resolved := Array.replicate 251 none
  statics := none }

def pool9 : Array CpInfo := pool [(1, .methodref 2 3), (0, .class_ 4), (0, .nameAndType 5 6), (0, u "java/util/AbstractCollection"), (0, u "<init>"), (0, u "()V"), (0, .fieldref 8 9), (0, .class_ 10), (0, .nameAndType 11 12), (0, u "java/util/AbstractList"), (0, u "modCount"), (0, u "I"), (64, .class_ 78), (0, u "java/util/AbstractList$Itr"), (3, .class_ 83), (0, u "java/util/AbstractList$ListItr"), (9, .class_ 94), (0, u "java/util/AbstractList$RandomAccessSubList"), (3, .class_ 99), (0, u "java/util/AbstractList$SubList"), (33, .class_ 134), (0, u "java/util/List"), (73, .class_ 209), (0, u "java/util/AbstractList$SubList$1"), (0, .class_ 211), (0, u "java/util/AbstractList$RandomAccessSpliterator")] 6

def k9c0 : Code := { maxStack := 2, maxLocals := 1, code := jdk_39_method_1_code, exceptionTable := #[], attributes := #[] }
def k9m0 : Method := { name := "<init>", desc := "()V", sig := { parameters := [], returnType := none }, accessFlags := 4, code := some k9c0 }
/-- java/util/AbstractList -/
def k9 : Class := { plain "java/util/AbstractList" (some 6) with
  accessFlags := 1057
  interfaces := #[8]
  cf := some (fileOf pool9 8 #[.nestMembers #[93, 98, 208, 210, 82, 77]] #[{ accessFlags := 4, nameIndex := 5, descriptorIndex := 6, attributes := #[] }] 1057 2 #[133] #[{ accessFlags := 132, nameIndex := 11, descriptorIndex := 12, attributes := #[] }])
  fields := #[{ name := "modCount", type := .int, accessFlags := 132, slot := 0, constantValue := 0 }]
  methods := #[k9m0]
  instanceTypes := #[.int]
  staticTypes := #[]
  resolved := Array.replicate 218 none
  statics := none }

def pool10 : Array CpInfo := pool [(1, .class_ 2), (0, u "java/util/RandomAccess"), (0, .class_ 4), (0, u "java/lang/Object")] 2

/-- java/util/RandomAccess -/
def k10 : Class := { plain "java/util/RandomAccess" (some 0) with
  accessFlags := 1537
  interfaces := #[]
  cf := some (fileOf pool10 1 #[] #[] 1537 3 #[] #[])
  fields := #[]
  methods := #[]
  instanceTypes := #[]
  staticTypes := #[]
  resolved := Array.replicate 7 none
  statics := none }

def pool11 : Array CpInfo := pool [(1, .class_ 2), (0, u "java/lang/Cloneable"), (0, .class_ 4), (0, u "java/lang/Object")] 2

/-- java/lang/Cloneable -/
def k11 : Class := { plain "java/lang/Cloneable" (some 0) with
  accessFlags := 1537
  interfaces := #[]
  cf := some (fileOf pool11 1 #[] #[] 1537 3 #[] #[])
  fields := #[]
  methods := #[]
  instanceTypes := #[]
  staticTypes := #[]
  resolved := Array.replicate 7 none
  statics := none }

def pool12 : Array CpInfo := pool [(1, .class_ 2), (0, u "java/io/Serializable"), (0, .class_ 4), (0, u "java/lang/Object")] 2

/-- java/io/Serializable -/
def k12 : Class := { plain "java/io/Serializable" (some 0) with
  accessFlags := 1537
  interfaces := #[]
  cf := some (fileOf pool12 1 #[] #[] 1537 3 #[] #[])
  fields := #[]
  methods := #[]
  instanceTypes := #[]
  staticTypes := #[]
  resolved := Array.replicate 7 none
  statics := none }

def pool13 : Array CpInfo := pool [(1, .methodref 2 3), (0, .class_ 4), (0, .nameAndType 5 6), (0, u "java/util/AbstractList"), (0, u "<init>"), (0, u "()V"), (2, .fieldref 10 11), (0, .class_ 12), (0, .nameAndType 13 14), (0, u "java/util/ArrayList"), (0, u "elementData"), (0, u "[Ljava/lang/Object;"), (2, u "EMPTY_ELEMENTDATA"), (21, .fieldref 10 40), (0, .nameAndType 41 14), (0, u "DEFAULTCAPACITY_EMPTY_ELEMENTDATA"), (8, u "size"), (0, u "I"), (96, .class_ 149), (0, u "java/util/List"), (112, .class_ 263), (0, u "java/util/ArrayList$ListItr"), (3, .class_ 268), (0, u "java/util/ArrayList$Itr"), (7, .class_ 277), (0, u "java/util/ArrayList$SubList"), (12, .class_ 291), (0, u "java/util/ArrayList$ArrayListSpliterator"), (37, .class_ 330), (0, u "java/util/RandomAccess"), (0, .class_ 332), (0, u "java/lang/Cloneable"), (0, .class_ 334), (0, u "java/io/Serializable"), (0, u "serialVersionUID"), (0, u "J"), (3, u "DEFAULT_CAPACITY"), (159, .class_ 501), (0, u "java/util/ArrayList$SubList$2"), (0, .class_ 503), (0, u "java/util/ArrayList$SubList$1")] 5

def k13c0 : Code := { maxStack := 2, maxLocals := 1, code := jdk_38_method_2_code, exceptionTable := #[], attributes := #[] }
def k13m0 : Method := { name := "<init>", desc := "()V", sig := { parameters := [], returnType := none }, accessFlags := 1, code := some k13c0 }
/-- java/util/ArrayList -/
def k13 : Class := { plain "java/util/ArrayList" (some 9) with
  accessFlags := 33
  interfaces := #[8, 10, 11, 12]
  cf := some (fileOf pool13 10 #[.nestMembers #[290, 276, 500, 502, 262, 267]] #[{ accessFlags := 1, nameIndex := 5, descriptorIndex := 6, attributes := #[] }] 33 2 #[148, 329, 331, 333] #[{ accessFlags := 26, nameIndex := 335, descriptorIndex := 336, attributes := #[] }, { accessFlags := 26, nameIndex := 340, descriptorIndex := 51, attributes := #[] }, { accessFlags := 26, nameIndex := 17, descriptorIndex := 14, attributes := #[] }, { accessFlags := 26, nameIndex := 41, descriptorIndex := 14, attributes := #[] }, { accessFlags := 128, nameIndex := 13, descriptorIndex := 14, attributes := #[] }, { accessFlags := 2, nameIndex := 50, descriptorIndex := 51, attributes := #[] }])
  fields := #[{ name := "serialVersionUID", type := .long, accessFlags := 26, slot := 0, constantValue := 0 }, { name := "DEFAULT_CAPACITY", type := .int, accessFlags := 26, slot := 1, constantValue := 0 }, { name := "EMPTY_ELEMENTDATA", type := (.array (.object "java/lang/Object")), accessFlags := 26, slot := 2, constantValue := 0 }, { name := "DEFAULTCAPACITY_EMPTY_ELEMENTDATA", type := (.array (.object "java/lang/Object")), accessFlags := 26, slot := 3, constantValue := 0 }, { name := "elementData", type := (.array (.object "java/lang/Object")), accessFlags := 128, slot := 1, constantValue := 0 }, { name := "size", type := .int, accessFlags := 2, slot := 2, constantValue := 0 }]
  methods := #[k13m0]
  instanceTypes := #[.int, (.array (.object "java/lang/Object")), .int]
  staticTypes := #[.long, .int, (.array (.object "java/lang/Object")), (.array (.object "java/lang/Object"))]
  resolved := Array.replicate 509 none
  statics := some 0 }

def pool14 : Array CpInfo := pool [(2, .class_ 4), (1, u "wayfarer/process/Step"), (78, .class_ 84), (0, u "java/lang/Object")] 56

/-- wayfarer/process/Step -/
def k14 : Class := { plain "wayfarer/process/Step" (some 0) with
  accessFlags := 1537
  interfaces := #[]
  cf := some (fileOf pool14 2 #[] #[] 1537 83 #[] #[])
  fields := #[]
  methods := #[]
  instanceTypes := #[]
  staticTypes := #[]
  resolved := Array.replicate 141 none
  statics := none }

def pool15 : Array CpInfo := pool [(1, .methodref 2 3), (0, .class_ 4), (0, .nameAndType 5 6), (0, u "java/lang/Record"), (0, u "<init>"), (0, u "()V"), (0, .fieldref 8 9), (0, .class_ 10), (0, .nameAndType 11 12), (0, u "wayfarer/process/RepeatStep"), (0, u "body"), (0, u "Ljava/util/List;"), (0, .fieldref 8 14), (0, .nameAndType 15 16), (0, u "times"), (0, u "I"), (0, .fieldref 8 18), (0, .nameAndType 19 20), (0, u "until"), (0, u "Lwayfarer/process/RepeatStep$Condition;"), (0, .fieldref 8 22), (0, .nameAndType 23 20), (0, u "emit"), (11, .class_ 36), (0, u "wayfarer/process/RepeatStep$Condition"), (15, u "()Z"), (26, .class_ 81), (1, u "wayfarer/process/Step"), (2, .methodref 8 85), (0, .nameAndType 86 52), (0, u "stops"), (18, .class_ 106), (0, u "wayfarer/process/RepeatStep$Outcome"), (12, .methodref 8 120), (0, .nameAndType 5 121), (0, u "(Ljava/util/List;ILwayfarer/process/RepeatStep$Condition;Lwayfarer/process/RepeatStep$Condition;)V"), (0, .methodref 8 123), (0, .nameAndType 124 6), (0, u "checkNoStop"), (24, u "AHEAD"), (0, u "Lwayfarer/process/RepeatStep;"), (2, u "UNTIMED"), (25, u "withTimes"), (0, u "(I)Lwayfarer/process/RepeatStep;"), (0, u "withUntil"), (0, u "(Lwayfarer/process/RepeatStep$Condition;)Lwayfarer/process/RepeatStep;")] 43

def k15c0 : Code := { maxStack := 2, maxLocals := 5, code := prog_134_method_1_code, exceptionTable := #[], attributes := #[] }
def k15m0 : Method := { name := "<init>", desc := "(Ljava/util/List;ILwayfarer/process/RepeatStep$Condition;Lwayfarer/process/RepeatStep$Condition;)V", sig := { parameters := [(.object "java/util/List"), .int, (.object "wayfarer/process/RepeatStep$Condition"), (.object "wayfarer/process/RepeatStep$Condition")], returnType := none }, accessFlags := 0, code := some k15c0 }
def k15c1 : Code := { maxStack := 2, maxLocals := 1, code := prog_134_method_11_code, exceptionTable := #[], attributes := #[] }
def k15m1 : Method := { name := "stops", desc := "()Z", sig := { parameters := [], returnType := some .boolean }, accessFlags := 0, code := some k15c1 }
def k15c2 : Code := { maxStack := 6, maxLocals := 2, code := prog_134_method_13_code, exceptionTable := #[], attributes := #[] }
def k15m2 : Method := { name := "withTimes", desc := "(I)Lwayfarer/process/RepeatStep;", sig := { parameters := [.int], returnType := some (.object "wayfarer/process/RepeatStep") }, accessFlags := 0, code := some k15c2 }
def k15c3 : Code := { maxStack := 6, maxLocals := 2, code := prog_134_method_14_code, exceptionTable := #[], attributes := #[] }
def k15m3 : Method := { name := "withUntil", desc := "(Lwayfarer/process/RepeatStep$Condition;)Lwayfarer/process/RepeatStep;", sig := { parameters := [(.object "wayfarer/process/RepeatStep$Condition")], returnType := some (.object "wayfarer/process/RepeatStep") }, accessFlags := 0, code := some k15c3 }
def k15c4 : Code := { maxStack := 3, maxLocals := 1, code := prog_134_method_16_code, exceptionTable := #[], attributes := #[] }
def k15m4 : Method := { name := "checkNoStop", desc := "()V", sig := { parameters := [], returnType := none }, accessFlags := 2, code := some k15c4 }
/-- wayfarer/process/RepeatStep -/
def k15 : Class := { plain "wayfarer/process/RepeatStep" (some 2) with
  accessFlags := 48
  interfaces := #[14]
  cf := some (fileOf pool15 8 #[.nestMembers #[105, 35]] #[{ accessFlags := 0, nameIndex := 5, descriptorIndex := 121, attributes := #[] }, { accessFlags := 0, nameIndex := 86, descriptorIndex := 52, attributes := #[] }, { accessFlags := 0, nameIndex := 179, descriptorIndex := 180, attributes := #[] }, { accessFlags := 0, nameIndex := 181, descriptorIndex := 182, attributes := #[] }, { accessFlags := 2, nameIndex := 124, descriptorIndex := 6, attributes := #[] }] 48 2 #[79] #[{ accessFlags := 18, nameIndex := 11, descriptorIndex := 12, attributes := #[] }, { accessFlags := 18, nameIndex := 15, descriptorIndex := 16, attributes := #[] }, { accessFlags := 18, nameIndex := 19, descriptorIndex := 20, attributes := #[] }, { accessFlags := 18, nameIndex := 23, descriptorIndex := 20, attributes := #[] }, { accessFlags := 24, nameIndex := 153, descriptorIndex := 16, attributes := #[] }, { accessFlags := 24, nameIndex := 149, descriptorIndex := 150, attributes := #[] }])
  fields := #[{ name := "body", type := (.object "java/util/List"), accessFlags := 18, slot := 0, constantValue := 0 }, { name := "times", type := .int, accessFlags := 18, slot := 1, constantValue := 0 }, { name := "until", type := (.object "wayfarer/process/RepeatStep$Condition"), accessFlags := 18, slot := 2, constantValue := 0 }, { name := "emit", type := (.object "wayfarer/process/RepeatStep$Condition"), accessFlags := 18, slot := 3, constantValue := 0 }, { name := "UNTIMED", type := .int, accessFlags := 24, slot := 0, constantValue := 0 }, { name := "AHEAD", type := (.object "wayfarer/process/RepeatStep"), accessFlags := 24, slot := 1, constantValue := 0 }]
  methods := #[k15m0, k15m1, k15m2, k15m3, k15m4]
  instanceTypes := #[(.object "java/util/List"), .int, (.object "wayfarer/process/RepeatStep$Condition"), (.object "wayfarer/process/RepeatStep$Condition")]
  staticTypes := #[.int, (.object "wayfarer/process/RepeatStep")]
  resolved := Array.replicate 226 none
  statics := none }

/-- the primitive byte -/
def k16 : Class := { plain "byte" none with kind := .primitive 'B', accessFlags := 0x411 }
/-- [B -/
def k17 : Class := { plain "[B" (some 0) with kind := .array 16 .byte, interfaces := #[11, 12], accessFlags := 1041 }

/-- the primitive int -/
def k18 : Class := { plain "int" none with kind := .primitive 'I', accessFlags := 0x411 }
/-- [I -/
def k19 : Class := { plain "[I" (some 0) with kind := .array 18 .int, interfaces := #[11, 12], accessFlags := 1041 }

/-- [Ljava/lang/Object; -/
def k20 : Class := { plain "[Ljava/lang/Object;" (some 0) with kind := .array 0 (.object "java/lang/Object"), interfaces := #[11, 12], accessFlags := 1041 }

def heap : Heap := #[{ cls := 13, slots := #[.long 0, .int 0, .ref 1, .ref 2], vm := .statics 13 },
  { cls := 20, slots := #[], vm := .none },
  { cls := 20, slots := #[], vm := .none }]
def classes : Array Class := #[k0, k1, k2, k3, k4, k5, k6, k7, k8, k9, k10, k11, k12, k13, k14, k15, k16, k17, k18, k19, k20]
def interned : List (Array UInt16 × Addr) := []
def slotsUsed : Nat := 4
def theMethod : MethodId := ⟨1, 1⟩
def args0 : Array Value := #[.int 5, .int 5, .int 5]
def aboutOver (below : List Frame) : State where
  vm := { classes := classes, interned := interned.toArray }
  heap := heap
  slotsUsed := slotsUsed
  threads := #[{ frames := .invoking theMethod args0 :: below }]
def below0 : List Frame := [.native { method := ⟨0, 0⟩, args := #[] }]
def about1 : State := aboutOver below0
def p0 : Program := .bare "" "" ""
def e0 : Env := launch0.env 0 0 0
theorem w_frames : about1.frames = Frame.invoking theMethod args0 :: below0 := rfl
set_option maxRecDepth 65536 in
theorem w_args : argsFit about1.vm theMethod args0 = true := by decide +kernel
set_option maxRecDepth 65536 in
theorem w_heap : heapFits about1 = true := by decide +kernel
set_option maxRecDepth 65536 in
theorem w_runnable : about1.curStatus? = some .runnable := by decide +kernel
set_option maxRecDepth 65536 in
theorem w_alone : about1.alone = true := by decide +kernel
set_option maxRecDepth 65536 in
theorem w_named : about1.methodNamed? x = some theMethod := by decide +kernel
set_option maxRecDepth 65536 in
theorem w_hears : about1.hears theMethod below0 = true := by decide +kernel
set_option maxRecDepth 65536 in
theorem w_ripe : about1.ripe theMethod args0 below0 = true := by decide +kernel
theorem w_running : about1.status = .running := rfl
set_option maxRecDepth 65536 in
theorem w_room : about1.hasRoom e0.platform room_1 = true :=
  launch0.hasRoom_least _ room_1 (by decide +kernel) (by decide +kernel) (by decide +kernel) (by decide +kernel) (by decide +kernel) (by decide +kernel)
theorem allAtoms_all (ts : List Jvm.Cond) (a : Array Jvm.Value) (st : Jvm.State) : (allAtoms ts).before a st = ts.all (fun c => c.before a st) := by
  induction ts with
  | nil => rfl
  | cons c t ih =>
    show (Jvm.Cond.and c (allAtoms t)).before a st = _
    rw [Jvm.Cond.before_and, ih, List.all_cons]
def words1 : List Jvm.Cond := Jvm.Cond.code x code maxLocals ret :: tables_1
/-- a 'code' word, met by the world's own term for the bytes: nothing is compared byte by byte -/
theorem code_word {y : MethodName} {bytes : ByteArray} {mx : Nat} {rt : Option FieldType} {a : Array Value} {s : State} {m : MethodId} {meth : Method} {c : Code} (h1 : s.methodNamed? y = some m) (h2 : s.vm.method? m = some meth) (h3 : meth.code = some c) (h4 : c.code = bytes)
    (h5 : (c.maxLocals == mx && c.exceptionTable.isEmpty && decide (c.maxStack ≤ mostOperands) && decide (meth.sig.returnType = rt) && !meth.locks && decide (parseMethodDescriptor y.desc = some meth.sig)) = true) : (Jvm.Cond.code y bytes mx rt).before a s = true := by
  simp only [Bool.and_eq_true, beq_iff_eq, Bool.not_eq_true', decide_eq_true_eq] at h5
  obtain ⟨⟨⟨⟨⟨g1, g2⟩, g3⟩, g4⟩, g5⟩, g6⟩ := h5
  simp [Cond.before, Cond.holds, Cond.value, h1, h2, h3, h4, g1, g2, g3, g4, g5, g6]
def isCode : Jvm.Cond → Bool
  | .code _ _ _ _ => true
  | _ => false
theorem all_split {L : List Jvm.Cond} {P : Jvm.Cond → Bool} (h1 : L.all (fun c => isCode c || P c) = true) (h2 : ∀ c ∈ L.filter isCode, P c = true) : L.all P = true := by
  refine List.all_eq_true.mpr fun c hc => ?_
  have h := List.all_eq_true.mp h1 c hc
  rcases Bool.eq_false_or_eq_true (isCode c) with hi | hi
  · exact h2 c (List.mem_filter.mpr ⟨hc, hi⟩)
  · simpa [hi] using h
set_option maxRecDepth 65536 in
theorem w_c0 : (Jvm.Cond.code x code maxLocals ret).before args0 about1 = true := code_word (m := ⟨1, 1⟩) (meth := k1m1) (c := k1c1) (by decide +kernel) rfl rfl rfl (by decide +kernel)
set_option maxRecDepth 65536 in
theorem w_c1 : (Jvm.Cond.code ({ cls := "java/util/ArrayList", name := "<init>", desc := "()V" } : Jvm.MethodName) jdk_38_method_2_code (1 : Nat) (Option.none : Option Jvm.ClassFile.FieldType)).before args0 about1 = true := code_word (m := ⟨13, 0⟩) (meth := k13m0) (c := k13c0) (by decide +kernel) rfl rfl rfl (by decide +kernel)
set_option maxRecDepth 65536 in
theorem w_c2 : (Jvm.Cond.code ({ cls := "java/util/AbstractList", name := "<init>", desc := "()V" } : Jvm.MethodName) jdk_39_method_1_code (1 : Nat) (Option.none : Option Jvm.ClassFile.FieldType)).before args0 about1 = true := code_word (m := ⟨9, 0⟩) (meth := k9m0) (c := k9c0) (by decide +kernel) rfl rfl rfl (by decide +kernel)
set_option maxRecDepth 65536 in
theorem w_c3 : (Jvm.Cond.code ({ cls := "java/util/AbstractCollection", name := "<init>", desc := "()V" } : Jvm.MethodName) jdk_22_method_1_code (1 : Nat) (Option.none : Option Jvm.ClassFile.FieldType)).before args0 about1 = true := code_word (m := ⟨6, 0⟩) (meth := k6m0) (c := k6c0) (by decide +kernel) rfl rfl rfl (by decide +kernel)
set_option maxRecDepth 65536 in
theorem w_c4 : (Jvm.Cond.code ({ cls := "java/lang/Object", name := "<init>", desc := "()V" } : Jvm.MethodName) object_method_1_code (1 : Nat) (Option.none : Option Jvm.ClassFile.FieldType)).before args0 about1 = true := code_word (m := ⟨0, 0⟩) (meth := k0m0) (c := k0c0) (by decide +kernel) rfl rfl rfl (by decide +kernel)
set_option maxRecDepth 65536 in
theorem w_c5 : (Jvm.Cond.code ({ cls := "wayfarer/process/RepeatStep$Condition", name := "<init>", desc := "(Ljava/util/List;Z)V" } : Jvm.MethodName) prog_135_method_1_code (3 : Nat) (Option.none : Option Jvm.ClassFile.FieldType)).before args0 about1 = true := code_word (m := ⟨3, 0⟩) (meth := k3m0) (c := k3c0) (by decide +kernel) rfl rfl rfl (by decide +kernel)
set_option maxRecDepth 65536 in
theorem w_c6 : (Jvm.Cond.code ({ cls := "java/lang/Record", name := "<init>", desc := "()V" } : Jvm.MethodName) jdk_30_method_1_code (1 : Nat) (Option.none : Option Jvm.ClassFile.FieldType)).before args0 about1 = true := code_word (m := ⟨2, 0⟩) (meth := k2m0) (c := k2c0) (by decide +kernel) rfl rfl rfl (by decide +kernel)
set_option maxRecDepth 65536 in
theorem w_c7 : (Jvm.Cond.code ({ cls := "wayfarer/process/RepeatStep", name := "<init>", desc := "(Ljava/util/List;ILwayfarer/process/RepeatStep$Condition;Lwayfarer/process/RepeatStep$Condition;)V" } : Jvm.MethodName) prog_134_method_1_code (5 : Nat) (Option.none : Option Jvm.ClassFile.FieldType)).before args0 about1 = true := code_word (m := ⟨15, 0⟩) (meth := k15m0) (c := k15c0) (by decide +kernel) rfl rfl rfl (by decide +kernel)
set_option maxRecDepth 65536 in
theorem w_c8 : (Jvm.Cond.code ({ cls := "wayfarer/process/RepeatStep", name := "stops", desc := "()Z" } : Jvm.MethodName) prog_134_method_11_code (1 : Nat) (Option.some Jvm.ClassFile.FieldType.boolean)).before args0 about1 = true := code_word (m := ⟨15, 1⟩) (meth := k15m1) (c := k15c1) (by decide +kernel) rfl rfl rfl (by decide +kernel)
set_option maxRecDepth 65536 in
theorem w_c9 : (Jvm.Cond.code ({ cls := "wayfarer/process/RepeatStep", name := "withTimes", desc := "(I)Lwayfarer/process/RepeatStep;" } : Jvm.MethodName) prog_134_method_13_code (2 : Nat) (Option.some (Jvm.ClassFile.FieldType.object "wayfarer/process/RepeatStep"))).before args0 about1 = true := code_word (m := ⟨15, 2⟩) (meth := k15m2) (c := k15c2) (by decide +kernel) rfl rfl rfl (by decide +kernel)
set_option maxRecDepth 65536 in
theorem w_c10 : (Jvm.Cond.code ({ cls := "wayfarer/process/RepeatStep", name := "checkNoStop", desc := "()V" } : Jvm.MethodName) prog_134_method_16_code (1 : Nat) (Option.none : Option Jvm.ClassFile.FieldType)).before args0 about1 = true := code_word (m := ⟨15, 4⟩) (meth := k15m4) (c := k15c4) (by decide +kernel) rfl rfl rfl (by decide +kernel)
set_option maxRecDepth 65536 in
theorem w_c11 : (Jvm.Cond.code ({ cls := "wayfarer/process/RepeatStep", name := "withUntil", desc := "(Lwayfarer/process/RepeatStep$Condition;)Lwayfarer/process/RepeatStep;" } : Jvm.MethodName) prog_134_method_14_code (2 : Nat) (Option.some (Jvm.ClassFile.FieldType.object "wayfarer/process/RepeatStep"))).before args0 about1 = true := code_word (m := ⟨15, 3⟩) (meth := k15m3) (c := k15c3) (by decide +kernel) rfl rfl rfl (by decide +kernel)
def codes1 : List Jvm.Cond := [Jvm.Cond.code x code maxLocals ret, Jvm.Cond.code ({ cls := "java/util/ArrayList", name := "<init>", desc := "()V" } : Jvm.MethodName) jdk_38_method_2_code (1 : Nat) (Option.none : Option Jvm.ClassFile.FieldType), Jvm.Cond.code ({ cls := "java/util/AbstractList", name := "<init>", desc := "()V" } : Jvm.MethodName) jdk_39_method_1_code (1 : Nat) (Option.none : Option Jvm.ClassFile.FieldType), Jvm.Cond.code ({ cls := "java/util/AbstractCollection", name := "<init>", desc := "()V" } : Jvm.MethodName) jdk_22_method_1_code (1 : Nat) (Option.none : Option Jvm.ClassFile.FieldType), Jvm.Cond.code ({ cls := "java/lang/Object", name := "<init>", desc := "()V" } : Jvm.MethodName) object_method_1_code (1 : Nat) (Option.none : Option Jvm.ClassFile.FieldType), Jvm.Cond.code ({ cls := "wayfarer/process/RepeatStep$Condition", name := "<init>", desc := "(Ljava/util/List;Z)V" } : Jvm.MethodName) prog_135_method_1_code (3 : Nat) (Option.none : Option Jvm.ClassFile.FieldType), Jvm.Cond.code ({ cls := "java/lang/Record", name := "<init>", desc := "()V" } : Jvm.MethodName) jdk_30_method_1_code (1 : Nat) (Option.none : Option Jvm.ClassFile.FieldType), Jvm.Cond.code ({ cls := "wayfarer/process/RepeatStep", name := "<init>", desc := "(Ljava/util/List;ILwayfarer/process/RepeatStep$Condition;Lwayfarer/process/RepeatStep$Condition;)V" } : Jvm.MethodName) prog_134_method_1_code (5 : Nat) (Option.none : Option Jvm.ClassFile.FieldType), Jvm.Cond.code ({ cls := "wayfarer/process/RepeatStep", name := "stops", desc := "()Z" } : Jvm.MethodName) prog_134_method_11_code (1 : Nat) (Option.some Jvm.ClassFile.FieldType.boolean), Jvm.Cond.code ({ cls := "wayfarer/process/RepeatStep", name := "withTimes", desc := "(I)Lwayfarer/process/RepeatStep;" } : Jvm.MethodName) prog_134_method_13_code (2 : Nat) (Option.some (Jvm.ClassFile.FieldType.object "wayfarer/process/RepeatStep")), Jvm.Cond.code ({ cls := "wayfarer/process/RepeatStep", name := "checkNoStop", desc := "()V" } : Jvm.MethodName) prog_134_method_16_code (1 : Nat) (Option.none : Option Jvm.ClassFile.FieldType), Jvm.Cond.code ({ cls := "wayfarer/process/RepeatStep", name := "withUntil", desc := "(Lwayfarer/process/RepeatStep$Condition;)Lwayfarer/process/RepeatStep;" } : Jvm.MethodName) prog_134_method_14_code (2 : Nat) (Option.some (Jvm.ClassFile.FieldType.object "wayfarer/process/RepeatStep"))]
set_option maxRecDepth 65536 in
theorem codes_eq : words1.filter isCode = codes1 := rfl
theorem w_codes : ∀ c ∈ words1.filter isCode, c.before args0 about1 = true := by
  rw [codes_eq]
  intro c hc
  simp only [codes1, List.mem_cons, List.not_mem_nil, or_false] at hc
  rcases hc with rfl | rfl | rfl | rfl | rfl | rfl | rfl | rfl | rfl | rfl | rfl | rfl
  · exact w_c0
  · exact w_c1
  · exact w_c2
  · exact w_c3
  · exact w_c4
  · exact w_c5
  · exact w_c6
  · exact w_c7
  · exact w_c8
  · exact w_c9
  · exact w_c10
  · exact w_c11
set_option maxRecDepth 65536 in
theorem w_t1 : (words1.take 24).all (fun c => isCode c || c.before args0 about1) = true := by decide +kernel
set_option maxRecDepth 65536 in
theorem w_t2 : ((words1.drop 24).take 24).all (fun c => isCode c || c.before args0 about1) = true := by decide +kernel
set_option maxRecDepth 65536 in
theorem w_t3 : (((words1.drop 24).drop 24).take 24).all (fun c => isCode c || c.before args0 about1) = true := by decide +kernel
set_option maxRecDepth 65536 in
theorem w_t4 : (((words1.drop 24).drop 24).drop 24).all (fun c => isCode c || c.before args0 about1) = true := by decide +kernel
theorem w_tables : (allAtoms (Jvm.Cond.code x code maxLocals ret :: tables_1)).before args0 about1 = true := by
  rw [allAtoms_all]
  show words1.all (fun c => c.before args0 about1) = true
  refine all_split ?_ w_codes
  rw [← List.take_append_drop 24 words1, List.all_append, w_t1, ← List.take_append_drop 24 (words1.drop 24), List.all_append, w_t2, ← List.take_append_drop 24 ((words1.drop 24).drop 24), List.all_append, w_t3, w_t4]
  rfl
set_option maxRecDepth 65536 in
theorem w_rest : rest_1_c.before args0 about1 = true := by decide +kernel
set_option maxRecDepth 65536 in
theorem w_case : (Jvm.Cond.and given_1 narrow_1).before args0 about1 = true := by decide +kernel
theorem w_applies : (headSpec (Jvm.Cond.code x code maxLocals ret :: tables_1) room_1).applies x e0.platform about1 = true :=
  (Spec.applies_iff w_frames).mpr ⟨w_running, w_runnable, w_alone, w_named, w_hears, w_ripe, w_room, w_tables⟩
theorem atStart : AtStart classFile x code maxLocals ret World_1 tables_1 room_1 Calls_1 rest_1 Pre_1 launch0 p0 e0 about1 theMethod args0 below0 :=
  ⟨lists_1, trivial, launch0.admits_env _ _ _, launch0.least_env, fairChoices_fair.cas, fairChoices_fair.clock, w_frames, w_args, w_heap, w_applies, trivial, w_rest, w_case⟩
end start1
theorem witness_1 : WitnessClaimed_1 := ⟨start1.p0, start1.e0, start1.about1, start1.theMethod, start1.args0, start1.below0, start1.atStart⟩
end Jvm.Pilot.@@N@@
