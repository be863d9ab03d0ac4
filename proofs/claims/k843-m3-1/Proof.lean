import JvmDerived
import JvmDerived.Pilot.@@N@@Statement
import JvmDerived.Pilot.@@N@@Code
set_option linter.unusedVariables false
set_option linter.unusedSimpArgs false
namespace Jvm.Pilot.@@N@@
open Jvm Jvm.ClassFile Sem Op Lib Jvm.Free Jvm.Stand Jvm.LawKit Jvm.RoadKit Bundle Jvm.Pilot.@@N@@.Jvm.D
section Own
variable {p : Program} {l : Launch} {e : Env} {R : Room} {s : State} {m : MethodId} {args : Array Value} {below : List Frame} {meth : Method} {c : Code} {T T' : State} {locs : List Loc} {cells slots : Nat} {QQ : Option Value → Heap → List Loc → Prop} {kc ks : Nat} {f f' : JFrame}
/-- from here the run comes to the method's return, with what QQ says -/
def own_Goes (p : Program) (e : Env) (below : List Frame) (s : State) (QQ : Option Value → Heap → List Loc → Prop) (kc ks : Nat) (T : State) (f : JFrame) : Prop :=
  ∃ s₂ o, Steps p.tables e below (T.setTop f) s₂ ∧ s₂.status = .running ∧ Ended s₂ below o ∧ ∃ v L, o = .returned v ∧ QQ v s₂.heap L ∧ FrameEnd s o s₂ L kc ks
theorem own_step (st : ∀ target, Steps p.tables e below (T'.setTop f') target → Steps p.tables e below (T.setTop f) target) (h : own_Goes p e below s QQ kc ks T' f') : own_Goes p e below s QQ kc ks T f := by
  obtain ⟨s₂, o, h1, r⟩ := h
  exact ⟨s₂, o, st _ h1, r⟩
theorem own_jump (st : Steps p.tables e below (T.setTop f) (T'.setTop f')) (h : own_Goes p e below s QQ kc ks T' f') : own_Goes p e below s QQ kc ks T f := by
  obtain ⟨s₂, o, h1, r⟩ := h
  exact ⟨s₂, o, st.trans h1, r⟩
theorem own_out {v : Option Value} (X : Stand p l e R s m args below meth c T locs cells slots) (hlk : meth.locks = false) (hv : meth.sig.returnType = none → v = none)
    (st : ∀ fs, (∀ (f : JFrame) (acts : List Action), f.method = m → f.locked = none → f.entered = [] → (doReturn e (T.setTop f) acts v).1 = T.setFrames fs) → Steps p.tables e below (T.setTop f) (T.setFrames fs)) (hc : cells ≤ kc) (hs : slots ≤ ks) (hq : QQ v T.heap locs) : own_Goes p e below s QQ kc ks T f := by
  obtain ⟨fs, hr, hrun, hended, hW, hsame⟩ := X.leave (v := v) hv hlk
  exact ⟨_, _, st fs hr, hrun, hended, v, locs, rfl, hq, ⟨_, rfl⟩, hW, hsame.mono hc hs⟩
theorem own_staKeep {Z : State} {h h' : Heap} {C n d : String} {v : Value} {ws : List Addr} (F : Sta Z h C n d v) (K : Keep h h' ws) (q : ∀ x ∈ ws, ∃ cell : Cell, h[x]? = some cell ∧ cell.vm.isStatics = false) : Sta Z h' C n d v := by
  obtain ⟨cf, i, k, f, st, cell, h1, h2, h3, h4, h5, h6, h7⟩ := F
  refine ⟨cf, i, k, f, st, cell, h1, h2, h3, h4, K.2.1 st cell h5 (fun z => ?_), h6, h7⟩
  obtain ⟨c', g1, g2⟩ := q st z
  rw [h5] at g1
  cases g1
  rw [h6] at g2
  cases g2
theorem own_exaNS {Z : State} {h : Heap} {a : Addr} {C : String} (F : Exa Z h a C) : ∃ cell : Cell, h[a]? = some cell ∧ cell.vm.isStatics = false := by
  obtain ⟨cell, k, h1, -, -, h4, -⟩ := F
  exact ⟨cell, h1, h4⟩
end Own
theorem d6_0 : decode jdk_30_method_1_code 0 = .ok (.aload_n 0, 1) := by decide +kernel
theorem d6_1 : decode jdk_30_method_1_code 1 = .ok (.invokespecial 1, 3) := by decide +kernel
theorem d6_4 : decode jdk_30_method_1_code 4 = .ok (.return_, 1) := by decide +kernel
theorem pn_0 : plainName "java/lang/Record" = true := by first | (simp [plainName, overriddenIn]; done) | decide +kernel
theorem ef_6 (m : MethodId) (x0 : Addr) : entryFrame m #[(.ref x0)] 1 = mkF m 0 #[.val (.ref x0)] [] := by first | (simp [entryFrame, mkF, argsToLocals, Value.category]; done) | rfl
def Q6 (Z : State) (a1 : Addr) (h0 : Heap) (n0 : Nat) (v : Option Value) (h : Heap) (L : List Loc) : Prop := v = none ∧ L = [] ∧ h = h0
abbrev R6 : Room := { frames := 1, cells := 0, slots := 0, locals := 12 }
set_option maxRecDepth 65536 in
set_option maxHeartbeats 40000000 in
theorem rm6 (l : Launch) (Z : State) (a0 : Array Value) (hw : ∀ d ∈ tables_1, d.before a0 Z = true) (ws : List Jvm.Cond) (a1 : Addr) (h0 : Heap) (n0 : Nat) (Z0 : n0 ≤ h0.size)  :
    MetFree l (⟨"java/lang/Record", "<init>", "()V"⟩ : MethodName) (head1 (Jvm.Cond.code (⟨"java/lang/Record", "<init>", "()V"⟩ : MethodName) jdk_30_method_1_code 1 none :: ws) R6) (fun a U => a = #[(.ref a1)] ∧ Z.Warmed39 U.vm ∧ U.heap = h0) (fun _ _ _ _ _ => True) (fun _ U o U' => ∃ v L, o = .returned v ∧ Q6 Z a1 h0 n0 v U'.heap L ∧ FrameEnd U o U' L R6.cells R6.slots) := by
  refine MetFree.of_bodySF (plainFor_of_name pn_0) hisR ?_
  intro p e s m args below meth c s₁ Bd hml0 hP hK
  obtain ⟨rfl, hZ, hh⟩ := hP
  have hx := Bd.exec
  have hby := Bd.bytes
  have hlk : meth.locks = false := BodyLoose.notSynchronized Bd
  have hml : c.maxLocals = 1 := hml0
  have hown : s.vm.findClass "java/lang/Record" = some m.cls := findClass_of_methodNamed Bd.named
  have hnm := (name_of_methodNamed Bd.named Bd.method).1
  have X0 : Stand p l e R6 s m #[(.ref a1)] below meth c s₁ [] 0 0 := Stand.of_body Bd
  have e0 : s₁.heap = h0 := by rw [← hh, Bd.state]; rfl
  have N0 := Fr.nil n0
  show own_Goes p e below s (Q6 Z a1 h0 n0) R6.cells R6.slots s₁ (entryFrame m #[(.ref a1)] 1)
  rw [ef_6 m a1]
  refine own_step (f' := (mkF m 1 #[.val (.ref a1)] [(.ref a1)])) (fun _ k => XS.aloadN X0.here hx rfl (hb hby d6_0) rfl rfl k) ?_
  obtain ⟨T1, X1, e1, st1⟩ := initO X0 hx hZ hown (hw _ (List.mem_of_getElem? (i := 37) rfl)) (hw _ (List.mem_of_getElem? (i := 22) rfl)) (hw _ (List.mem_of_getElem? (i := 23) rfl)) e0 (g := (mkF m 1 #[.val (.ref a1)] [(.ref a1)])) rfl (by rw [hml]; rfl) rfl (hb hby d6_1) (by decide) (W := 0) (by show 2 * 0 + _ ≤ _; exact Nat.le_of_eq rfl) (by decide)
  refine own_step (f' := (mkF m 4 #[.val (.ref a1)] [])) st1 ?_
  refine own_out (v := none) X1 hlk (fun _ => rfl) (fun fs hr => X1.returnOut hx Bd.returns (hb hby d6_4) hr) (by decide) (by decide) ?_
  rw [e1]
  exact ⟨rfl, rfl, rfl⟩
theorem d3_0 : decode jdk_22_method_1_code 0 = .ok (.aload_n 0, 1) := by decide +kernel
theorem d3_1 : decode jdk_22_method_1_code 1 = .ok (.invokespecial 1, 3) := by decide +kernel
theorem d3_4 : decode jdk_22_method_1_code 4 = .ok (.return_, 1) := by decide +kernel
theorem pn_1 : plainName "java/util/AbstractCollection" = true := by first | (simp [plainName, overriddenIn]; done) | decide +kernel
theorem ef_3 (m : MethodId) (x0 : Addr) : entryFrame m #[(.ref x0)] 1 = mkF m 0 #[.val (.ref x0)] [] := by first | (simp [entryFrame, mkF, argsToLocals, Value.category]; done) | rfl
def Q3 (Z : State) (a1 : Addr) (h0 : Heap) (n0 : Nat) (v : Option Value) (h : Heap) (L : List Loc) : Prop := v = none ∧ L = [] ∧ h = h0
abbrev R3 : Room := { frames := 1, cells := 0, slots := 0, locals := 12 }
set_option maxRecDepth 65536 in
set_option maxHeartbeats 40000000 in
theorem rm3 (l : Launch) (Z : State) (a0 : Array Value) (hw : ∀ d ∈ tables_1, d.before a0 Z = true) (ws : List Jvm.Cond) (a1 : Addr) (h0 : Heap) (n0 : Nat) (Z0 : n0 ≤ h0.size)  :
    MetFree l (⟨"java/util/AbstractCollection", "<init>", "()V"⟩ : MethodName) (head1 (Jvm.Cond.code (⟨"java/util/AbstractCollection", "<init>", "()V"⟩ : MethodName) jdk_22_method_1_code 1 none :: ws) R3) (fun a U => a = #[(.ref a1)] ∧ Z.Warmed39 U.vm ∧ U.heap = h0) (fun _ _ _ _ _ => True) (fun _ U o U' => ∃ v L, o = .returned v ∧ Q3 Z a1 h0 n0 v U'.heap L ∧ FrameEnd U o U' L R3.cells R3.slots) := by
  refine MetFree.of_bodySF (plainFor_of_name pn_1) hisR ?_
  intro p e s m args below meth c s₁ Bd hml0 hP hK
  obtain ⟨rfl, hZ, hh⟩ := hP
  have hx := Bd.exec
  have hby := Bd.bytes
  have hlk : meth.locks = false := BodyLoose.notSynchronized Bd
  have hml : c.maxLocals = 1 := hml0
  have hown : s.vm.findClass "java/util/AbstractCollection" = some m.cls := findClass_of_methodNamed Bd.named
  have hnm := (name_of_methodNamed Bd.named Bd.method).1
  have X0 : Stand p l e R3 s m #[(.ref a1)] below meth c s₁ [] 0 0 := Stand.of_body Bd
  have e0 : s₁.heap = h0 := by rw [← hh, Bd.state]; rfl
  have N0 := Fr.nil n0
  show own_Goes p e below s (Q3 Z a1 h0 n0) R3.cells R3.slots s₁ (entryFrame m #[(.ref a1)] 1)
  rw [ef_3 m a1]
  refine own_step (f' := (mkF m 1 #[.val (.ref a1)] [(.ref a1)])) (fun _ k => XS.aloadN X0.here hx rfl (hb hby d3_0) rfl rfl k) ?_
  obtain ⟨T1, X1, e1, st1⟩ := initO X0 hx hZ hown (hw _ (List.mem_of_getElem? (i := 21) rfl)) (hw _ (List.mem_of_getElem? (i := 22) rfl)) (hw _ (List.mem_of_getElem? (i := 23) rfl)) e0 (g := (mkF m 1 #[.val (.ref a1)] [(.ref a1)])) rfl (by rw [hml]; rfl) rfl (hb hby d3_1) (by decide) (W := 0) (by show 2 * 0 + _ ≤ _; exact Nat.le_of_eq rfl) (by decide)
  refine own_step (f' := (mkF m 4 #[.val (.ref a1)] [])) st1 ?_
  refine own_out (v := none) X1 hlk (fun _ => rfl) (fun fs hr => X1.returnOut hx Bd.returns (hb hby d3_4) hr) (by decide) (by decide) ?_
  rw [e1]
  exact ⟨rfl, rfl, rfl⟩
theorem pd_0 : parseMethodDescriptor "()V" = some ⟨[], none⟩ := by decide +kernel
theorem d2_0 : decode jdk_39_method_1_code 0 = .ok (.aload_n 0, 1) := by decide +kernel
theorem d2_1 : decode jdk_39_method_1_code 1 = .ok (.invokespecial 1, 3) := by decide +kernel
theorem d2_4 : decode jdk_39_method_1_code 4 = .ok (.aload_n 0, 1) := by decide +kernel
theorem d2_5 : decode jdk_39_method_1_code 5 = .ok (.iconst 0, 1) := by decide +kernel
theorem d2_6 : decode jdk_39_method_1_code 6 = .ok (.putfield 7, 3) := by decide +kernel
theorem d2_9 : decode jdk_39_method_1_code 9 = .ok (.return_, 1) := by decide +kernel
theorem pn_2 : plainName "java/util/AbstractList" = true := by first | (simp [plainName, overriddenIn]; done) | decide +kernel
theorem ef_2 (m : MethodId) (x0 : Addr) : entryFrame m #[(.ref x0)] 1 = mkF m 0 #[.val (.ref x0)] [] := by first | (simp [entryFrame, mkF, argsToLocals, Value.category]; done) | rfl
def Q2 (Z : State) (a1 : Addr) (u1 : Value) (u2 : Value) (h0 : Heap) (n0 : Nat) (v : Option Value) (h : Heap) (L : List Loc) : Prop := v = none ∧ Fr n0 L ∧ Keep h0 h [a1] ∧ Exa Z h a1 "java/util/ArrayList" ∧ Fld Z h a1 "java/util/AbstractList" "modCount" "I" (.int (0 : Int32)) ∧ Fld Z h a1 "java/util/ArrayList" "elementData" "[Ljava/lang/Object;" u2
abbrev R2 : Room := { frames := 2, cells := 0, slots := 0, locals := 24 }
set_option maxRecDepth 65536 in
set_option maxHeartbeats 40000000 in
theorem rm2 (l : Launch) (Z : State) (a0 : Array Value) (hw : ∀ d ∈ tables_1, d.before a0 Z = true) (ws : List Jvm.Cond) (a1 : Addr) (u1 : Value) (u2 : Value) (h0 : Heap) (n0 : Nat) (Z0 : n0 ≤ h0.size) (E_a1 : Exa Z h0 a1 "java/util/ArrayList") (F_modCount_a1 : Fld Z h0 a1 "java/util/AbstractList" "modCount" "I" u1) (g_a1 : n0 ≤ a1) (F_elementData_a1 : Fld Z h0 a1 "java/util/ArrayList" "elementData" "[Ljava/lang/Object;" u2) :
    MetFree l (⟨"java/util/AbstractList", "<init>", "()V"⟩ : MethodName) (head1 (Jvm.Cond.code (⟨"java/util/AbstractList", "<init>", "()V"⟩ : MethodName) jdk_39_method_1_code 1 none :: ws) R2) (fun a U => a = #[(.ref a1)] ∧ Z.Warmed39 U.vm ∧ U.heap = h0) (fun _ _ _ _ _ => True) (fun _ U o U' => ∃ v L, o = .returned v ∧ Q2 Z a1 u1 u2 h0 n0 v U'.heap L ∧ FrameEnd U o U' L R2.cells R2.slots) := by
  refine MetFree.of_bodySF (plainFor_of_name pn_2) hisR ?_
  intro p e s m args below meth c s₁ Bd hml0 hP hK
  obtain ⟨rfl, hZ, hh⟩ := hP
  have hx := Bd.exec
  have hby := Bd.bytes
  have hlk : meth.locks = false := BodyLoose.notSynchronized Bd
  have hml : c.maxLocals = 1 := hml0
  have hown : s.vm.findClass "java/util/AbstractList" = some m.cls := findClass_of_methodNamed Bd.named
  have hnm := (name_of_methodNamed Bd.named Bd.method).1
  have X0 : Stand p l e R2 s m #[(.ref a1)] below meth c s₁ [] 0 0 := Stand.of_body Bd
  have e0 : s₁.heap = h0 := by rw [← hh, Bd.state]; rfl
  have N0 := Fr.nil n0
  show own_Goes p e below s (Q2 Z a1 u1 u2 h0 n0) R2.cells R2.slots s₁ (entryFrame m #[(.ref a1)] 1)
  rw [ef_2 m a1]
  refine own_step (f' := (mkF m 1 #[.val (.ref a1)] [(.ref a1)])) (fun _ k => XS.aloadN X0.here hx rfl (hb hby d2_0) rfl rfl k) ?_
  have Zq1 : n0 ≤ h0.size := Z0
  obtain ⟨_, _, ⟨T1, L1, k1, n1⟩, -, X1, ⟨Lc1, hQ1, l1, y1, z1⟩, st1⟩ := X0.specialBack hx (y := (⟨"java/util/AbstractCollection", "<init>", "()V"⟩ : MethodName)) rfl hown (mvT hZ (hw _ (List.mem_of_getElem? (i := 15) rfl))) (mvT hZ (hw _ (List.mem_of_getElem? (i := 16) rfl))) (mvT hZ (hw _ (List.mem_of_getElem? (i := 20) rfl))) (by decide) (backOf (W := 0) (rm3 l Z a0 hw [] a1 h0 n0 Zq1 ) hZ (hw _ (List.mem_of_getElem? (i := 20) rfl)) (hw _ (List.mem_of_getElem? (i := 19) rfl)) (by decide) (by decide)) (g := (mkF m 1 #[.val (.ref a1)] [(.ref a1)])) rfl (by rw [hml]; rfl) (Steps.refl _) (a := a1) (argsL := []) (rest := []) (lenOf pd_0 rfl) rfl (by show 2 * 0 + _ ≤ _; exact Nat.le_of_eq rfl) (hb hby d2_1) (fun _ _ => ⟨rfl, e0, (by decide : 0 + 0 ≤ _), (by decide : 0 + 0 ≤ _)⟩)
  dsimp only [Pt.U, Pt.locs, Pt.cells, Pt.slots] at X1 l1 y1 z1 st1 hQ1
  subst l1 y1 z1
  obtain ⟨rfl, rfl, e1⟩ := hQ1
  try rw [List.append_nil] at X1
  refine own_jump (f' := (mkF m 4 #[.val (.ref a1)] [])) st1 ?_
  refine own_step (f' := (mkF m 5 #[.val (.ref a1)] [(.ref a1)])) (fun _ k => XS.aloadN X1.here hx rfl (hb hby d2_4) rfl rfl k) ?_
  refine own_step (f' := (mkF m 6 #[.val (.ref a1)] [(.int (0 : Int32)), (.ref a1)])) (fun _ k => XS.iconst X1.here hx rfl (hb hby d2_5) k) ?_
  obtain ⟨T2, h2, X2, e2, W2, st2⟩ := putF X1 hx hZ hown (host := "") (Or.inl (hw _ (List.mem_of_getElem? (i := 24) rfl))) Via.refl e1 F_modCount_a1 E_a1 (Or.inl (hw _ (List.mem_of_getElem? (i := 25) rfl))) (hw _ (List.mem_of_getElem? (i := 4) rfl)) (ty := .int) (by decide) rfl rfl (g := (mkF m 6 #[.val (.ref a1)] [(.int (0 : Int32)), (.ref a1)])) rfl rfl (hb hby d2_6)
  obtain ⟨Lo2, X2, N2⟩ : ∃ K, Stand p l e R2 s m #[(.ref a1)] below meth c T2 K 0 0 ∧ Fr n0 K := ⟨_, X2, (Fr.snoc X2 N0 g_a1)⟩
  refine own_step (f' := (mkF m 9 #[.val (.ref a1)] [])) st2 ?_
  refine own_out (v := none) X2 hlk (fun _ => rfl) (fun fs hr => X2.returnOut hx Bd.returns (hb hby d2_9) hr) (by decide) (by decide) ?_
  rw [e2]
  exact ⟨rfl, N2, ((Keep.refl h0 [a1]).wr W2 (Or.inl (List.mem_of_getElem? (i := 0) rfl))), (E_a1.wr W2), (F_modCount_a1.same W2), (F_elementData_a1.other W2 (Or.inr (slot_ne (Or.inl (hw _ (List.mem_of_getElem? (i := 28) rfl))) (Or.inl (hw _ (List.mem_of_getElem? (i := 25) rfl))) (by decide) (t := (.array (.object "java/lang/Object"))) (t' := .int) (by decide) (by decide))))⟩
theorem d1_0 : decode jdk_38_method_2_code 0 = .ok (.aload_n 0, 1) := by decide +kernel
theorem d1_1 : decode jdk_38_method_2_code 1 = .ok (.invokespecial 1, 3) := by decide +kernel
theorem d1_4 : decode jdk_38_method_2_code 4 = .ok (.aload_n 0, 1) := by decide +kernel
theorem d1_5 : decode jdk_38_method_2_code 5 = .ok (.getstatic 39, 3) := by decide +kernel
theorem d1_8 : decode jdk_38_method_2_code 8 = .ok (.putfield 9, 3) := by decide +kernel
theorem d1_11 : decode jdk_38_method_2_code 11 = .ok (.return_, 1) := by decide +kernel
theorem pn_3 : plainName "java/util/ArrayList" = true := by first | (simp [plainName, overriddenIn]; done) | decide +kernel
theorem ef_1 (m : MethodId) (x0 : Addr) : entryFrame m #[(.ref x0)] 1 = mkF m 0 #[.val (.ref x0)] [] := by first | (simp [entryFrame, mkF, argsToLocals, Value.category]; done) | rfl
def Q1 (Z : State) (a1 : Addr) (u1 : Value) (u2 : Value) (w1 : Addr) (h0 : Heap) (n0 : Nat) (v : Option Value) (h : Heap) (L : List Loc) : Prop := v = none ∧ Fr n0 L ∧ Keep h0 h [a1] ∧ Exa Z h a1 "java/util/ArrayList" ∧ Fld Z h a1 "java/util/AbstractList" "modCount" "I" (.int (0 : Int32)) ∧ Fld Z h a1 "java/util/ArrayList" "elementData" "[Ljava/lang/Object;" (.ref w1)
abbrev R1 : Room := { frames := 3, cells := 0, slots := 0, locals := 36 }
set_option maxRecDepth 65536 in
set_option maxHeartbeats 40000000 in
theorem rm1 (l : Launch) (Z : State) (a0 : Array Value) (hw : ∀ d ∈ tables_1, d.before a0 Z = true) (ws : List Jvm.Cond) (a1 : Addr) (u1 : Value) (u2 : Value) (w1 : Addr) (h0 : Heap) (n0 : Nat) (Z0 : n0 ≤ h0.size) (E_a1 : Exa Z h0 a1 "java/util/ArrayList") (F_modCount_a1 : Fld Z h0 a1 "java/util/AbstractList" "modCount" "I" u1) (g_a1 : n0 ≤ a1) (S_DEFAULTCAPACITY_EMPTY_ELEMENTDATA : Sta Z h0 "java/util/ArrayList" "DEFAULTCAPACITY_EMPTY_ELEMENTDATA" "[Ljava/lang/Object;" (.ref w1)) (F_elementData_a1 : Fld Z h0 a1 "java/util/ArrayList" "elementData" "[Ljava/lang/Object;" u2) :
    MetFree l (⟨"java/util/ArrayList", "<init>", "()V"⟩ : MethodName) (head1 (Jvm.Cond.code (⟨"java/util/ArrayList", "<init>", "()V"⟩ : MethodName) jdk_38_method_2_code 1 none :: ws) R1) (fun a U => a = #[(.ref a1)] ∧ Z.Warmed39 U.vm ∧ U.heap = h0) (fun _ _ _ _ _ => True) (fun _ U o U' => ∃ v L, o = .returned v ∧ Q1 Z a1 u1 u2 w1 h0 n0 v U'.heap L ∧ FrameEnd U o U' L R1.cells R1.slots) := by
  refine MetFree.of_bodySF (plainFor_of_name pn_3) hisR ?_
  intro p e s m args below meth c s₁ Bd hml0 hP hK
  obtain ⟨rfl, hZ, hh⟩ := hP
  have hx := Bd.exec
  have hby := Bd.bytes
  have hlk : meth.locks = false := BodyLoose.notSynchronized Bd
  have hml : c.maxLocals = 1 := hml0
  have hown : s.vm.findClass "java/util/ArrayList" = some m.cls := findClass_of_methodNamed Bd.named
  have hnm := (name_of_methodNamed Bd.named Bd.method).1
  have X0 : Stand p l e R1 s m #[(.ref a1)] below meth c s₁ [] 0 0 := Stand.of_body Bd
  have e0 : s₁.heap = h0 := by rw [← hh, Bd.state]; rfl
  have N0 := Fr.nil n0
  show own_Goes p e below s (Q1 Z a1 u1 u2 w1 h0 n0) R1.cells R1.slots s₁ (entryFrame m #[(.ref a1)] 1)
  rw [ef_1 m a1]
  refine own_step (f' := (mkF m 1 #[.val (.ref a1)] [(.ref a1)])) (fun _ k => XS.aloadN X0.here hx rfl (hb hby d1_0) rfl rfl k) ?_
  have Zq1 : n0 ≤ h0.size := Z0
  obtain ⟨_, _, ⟨T1, L1, k1, n1⟩, -, X1, ⟨Lc1, hQ1, l1, y1, z1⟩, st1⟩ := X0.specialBack hx (y := (⟨"java/util/AbstractList", "<init>", "()V"⟩ : MethodName)) rfl hown (mvT hZ (hw _ (List.mem_of_getElem? (i := 9) rfl))) (mvT hZ (hw _ (List.mem_of_getElem? (i := 10) rfl))) (mvT hZ (hw _ (List.mem_of_getElem? (i := 14) rfl))) (by decide) (backOf (W := 0) (rm2 l Z a0 hw [] a1 u1 u2 h0 n0 Zq1 E_a1 F_modCount_a1 g_a1 F_elementData_a1) hZ (hw _ (List.mem_of_getElem? (i := 14) rfl)) (hw _ (List.mem_of_getElem? (i := 13) rfl)) (by decide) (by decide)) (g := (mkF m 1 #[.val (.ref a1)] [(.ref a1)])) rfl (by rw [hml]; rfl) (Steps.refl _) (a := a1) (argsL := []) (rest := []) (lenOf pd_0 rfl) rfl (by show 2 * 0 + _ ≤ _; exact Nat.le_of_eq rfl) (hb hby d1_1) (fun _ _ => ⟨rfl, e0, (by decide : 0 + 0 ≤ _), (by decide : 0 + 0 ≤ _)⟩)
  dsimp only [Pt.U, Pt.locs, Pt.cells, Pt.slots] at X1 l1 y1 z1 st1 hQ1
  subst l1 y1 z1
  obtain ⟨rfl, Nq1, K1, P1_0, P1_1, P1_2⟩ := hQ1
  obtain ⟨Lo1, X1, N1⟩ : ∃ K, Stand p l e R1 s m #[(.ref a1)] below meth c T1 K 0 0 ∧ Fr n0 K := ⟨_, X1, (Fr.app N0 Nq1)⟩
  refine own_jump (f' := (mkF m 4 #[.val (.ref a1)] [])) st1 ?_
  refine own_step (f' := (mkF m 5 #[.val (.ref a1)] [(.ref a1)])) (fun _ k => XS.aloadN X1.here hx rfl (hb hby d1_4) rfl rfl k) ?_
  obtain ⟨T2, X2, e2, st2⟩ := getS2 X1 hx hZ hown (host := "") (Or.inl (hw _ (List.mem_of_getElem? (i := 26) rfl))) Via.refl rfl (own_staKeep S_DEFAULTCAPACITY_EMPTY_ELEMENTDATA K1 (allS (own_exaNS E_a1) all0)) (g := (mkF m 5 #[.val (.ref a1)] [(.ref a1)])) rfl (hb hby d1_5)
  refine own_step (f' := (mkF m 8 #[.val (.ref a1)] [(.ref w1), (.ref a1)])) st2 ?_
  obtain ⟨T3, h3, X3, e3, W3, st3⟩ := putF X2 hx hZ hown (host := "") (Or.inl (hw _ (List.mem_of_getElem? (i := 27) rfl))) Via.refl e2 P1_2 P1_0 (Or.inl (hw _ (List.mem_of_getElem? (i := 28) rfl))) (hw _ (List.mem_of_getElem? (i := 4) rfl)) (ty := (.array (.object "java/lang/Object"))) (by decide) rfl rfl (g := (mkF m 8 #[.val (.ref a1)] [(.ref w1), (.ref a1)])) rfl rfl (hb hby d1_8)
  obtain ⟨Lo3, X3, N3⟩ : ∃ K, Stand p l e R1 s m #[(.ref a1)] below meth c T3 K 0 0 ∧ Fr n0 K := ⟨_, X3, (Fr.snoc X3 N1 g_a1)⟩
  refine own_step (f' := (mkF m 11 #[.val (.ref a1)] [])) st3 ?_
  refine own_out (v := none) X3 hlk (fun _ => rfl) (fun fs hr => X3.returnOut hx Bd.returns (hb hby d1_11) hr) (by decide) (by decide) ?_
  rw [e3]
  exact ⟨rfl, N3, (((Keep.refl h0 [a1]).trans K1 (allS (Or.inl (List.mem_of_getElem? (i := 0) rfl)) all0)).wr W3 (Or.inl (List.mem_of_getElem? (i := 0) rfl))), (P1_0.wr W3), (P1_1.other W3 (Or.inr (slot_ne (Or.inl (hw _ (List.mem_of_getElem? (i := 25) rfl))) (Or.inl (hw _ (List.mem_of_getElem? (i := 28) rfl))) (by decide) (t := .int) (t' := (.array (.object "java/lang/Object"))) (by decide) (by decide)))), (P1_2.same W3)⟩
theorem d5_0 : decode prog_134_method_1_code 0 = .ok (.aload_n 0, 1) := by decide +kernel
theorem d5_1 : decode prog_134_method_1_code 1 = .ok (.invokespecial 1, 3) := by decide +kernel
theorem d5_4 : decode prog_134_method_1_code 4 = .ok (.aload_n 0, 1) := by decide +kernel
theorem d5_5 : decode prog_134_method_1_code 5 = .ok (.aload_n 1, 1) := by decide +kernel
theorem d5_6 : decode prog_134_method_1_code 6 = .ok (.putfield 7, 3) := by decide +kernel
theorem d5_9 : decode prog_134_method_1_code 9 = .ok (.aload_n 0, 1) := by decide +kernel
theorem d5_10 : decode prog_134_method_1_code 10 = .ok (.iload_n 2, 1) := by decide +kernel
theorem d5_11 : decode prog_134_method_1_code 11 = .ok (.putfield 13, 3) := by decide +kernel
theorem d5_14 : decode prog_134_method_1_code 14 = .ok (.aload_n 0, 1) := by decide +kernel
theorem d5_15 : decode prog_134_method_1_code 15 = .ok (.aload_n 3, 1) := by decide +kernel
theorem d5_16 : decode prog_134_method_1_code 16 = .ok (.putfield 17, 3) := by decide +kernel
theorem d5_19 : decode prog_134_method_1_code 19 = .ok (.aload_n 0, 1) := by decide +kernel
theorem d5_20 : decode prog_134_method_1_code 20 = .ok (.aload 4, 2) := by decide +kernel
theorem d5_22 : decode prog_134_method_1_code 22 = .ok (.putfield 21, 3) := by decide +kernel
theorem d5_25 : decode prog_134_method_1_code 25 = .ok (.return_, 1) := by decide +kernel
theorem pn_4 : plainName "wayfarer/process/RepeatStep" = true := by first | (simp [plainName, overriddenIn]; done) | decide +kernel
theorem ef_5 (m : MethodId) (x0 : Addr) (x1 : Addr) (x2 : Int32) : entryFrame m #[(.ref x0), (.ref x1), (.int x2), .null, .null] 5 = mkF m 0 #[.val (.ref x0), .val (.ref x1), .val (.int x2), .val .null, .val .null] [] := by first | (simp [entryFrame, mkF, argsToLocals, Value.category]; done) | rfl
def Q5 (Z : State) (a1 : Addr) (a2 : Addr) (p3 : Int32) (u0 : Value) (u1 : Value) (u2 : Value) (u3 : Value) (h0 : Heap) (n0 : Nat) (v : Option Value) (h : Heap) (L : List Loc) : Prop := v = none ∧ Fr n0 L ∧ Keep h0 h [a1] ∧ Exa Z h a1 "wayfarer/process/RepeatStep" ∧ Fld Z h a1 "wayfarer/process/RepeatStep" "body" "Ljava/util/List;" (.ref a2) ∧ Fld Z h a1 "wayfarer/process/RepeatStep" "times" "I" (.int p3) ∧ Fld Z h a1 "wayfarer/process/RepeatStep" "until" "Lwayfarer/process/RepeatStep$Condition;" .null ∧ Fld Z h a1 "wayfarer/process/RepeatStep" "emit" "Lwayfarer/process/RepeatStep$Condition;" .null
abbrev R5 : Room := { frames := 2, cells := 0, slots := 0, locals := 24 }
set_option maxRecDepth 65536 in
set_option maxHeartbeats 40000000 in
theorem rm5 (l : Launch) (Z : State) (a0 : Array Value) (hw : ∀ d ∈ tables_1, d.before a0 Z = true) (ws : List Jvm.Cond) (a1 : Addr) (a2 : Addr) (p3 : Int32) (u0 : Value) (u1 : Value) (u2 : Value) (u3 : Value) (h0 : Heap) (n0 : Nat) (Z0 : n0 ≤ h0.size) (E_a1 : Exa Z h0 a1 "wayfarer/process/RepeatStep") (F_body_a1 : Fld Z h0 a1 "wayfarer/process/RepeatStep" "body" "Ljava/util/List;" u0) (F_times_a1 : Fld Z h0 a1 "wayfarer/process/RepeatStep" "times" "I" u1) (F_until_a1 : Fld Z h0 a1 "wayfarer/process/RepeatStep" "until" "Lwayfarer/process/RepeatStep$Condition;" u2) (F_emit_a1 : Fld Z h0 a1 "wayfarer/process/RepeatStep" "emit" "Lwayfarer/process/RepeatStep$Condition;" u3) (g_a1 : n0 ≤ a1) :
    MetFree l (⟨"wayfarer/process/RepeatStep", "<init>", "(Ljava/util/List;ILwayfarer/process/RepeatStep$Condition;Lwayfarer/process/RepeatStep$Condition;)V"⟩ : MethodName) (head1 (Jvm.Cond.code (⟨"wayfarer/process/RepeatStep", "<init>", "(Ljava/util/List;ILwayfarer/process/RepeatStep$Condition;Lwayfarer/process/RepeatStep$Condition;)V"⟩ : MethodName) prog_134_method_1_code 5 none :: ws) R5) (fun a U => a = #[(.ref a1), (.ref a2), (.int p3), .null, .null] ∧ Z.Warmed39 U.vm ∧ U.heap = h0) (fun _ _ _ _ _ => True) (fun _ U o U' => ∃ v L, o = .returned v ∧ Q5 Z a1 a2 p3 u0 u1 u2 u3 h0 n0 v U'.heap L ∧ FrameEnd U o U' L R5.cells R5.slots) := by
  refine MetFree.of_bodySF (plainFor_of_name pn_4) hisR ?_
  intro p e s m args below meth c s₁ Bd hml0 hP hK
  obtain ⟨rfl, hZ, hh⟩ := hP
  have hx := Bd.exec
  have hby := Bd.bytes
  have hlk : meth.locks = false := BodyLoose.notSynchronized Bd
  have hml : c.maxLocals = 5 := hml0
  have hown : s.vm.findClass "wayfarer/process/RepeatStep" = some m.cls := findClass_of_methodNamed Bd.named
  have hnm := (name_of_methodNamed Bd.named Bd.method).1
  have X0 : Stand p l e R5 s m #[(.ref a1), (.ref a2), (.int p3), .null, .null] below meth c s₁ [] 0 0 := Stand.of_body Bd
  have e0 : s₁.heap = h0 := by rw [← hh, Bd.state]; rfl
  have N0 := Fr.nil n0
  show own_Goes p e below s (Q5 Z a1 a2 p3 u0 u1 u2 u3 h0 n0) R5.cells R5.slots s₁ (entryFrame m #[(.ref a1), (.ref a2), (.int p3), .null, .null] 5)
  rw [ef_5 m a1 a2 p3]
  refine own_step (f' := (mkF m 1 #[.val (.ref a1), .val (.ref a2), .val (.int p3), .val .null, .val .null] [(.ref a1)])) (fun _ k => XS.aloadN X0.here hx rfl (hb hby d5_0) rfl rfl k) ?_
  have Zq1 : n0 ≤ h0.size := Z0
  obtain ⟨_, _, ⟨T1, L1, k1, n1⟩, -, X1, ⟨Lc1, hQ1, l1, y1, z1⟩, st1⟩ := X0.specialBack hx (y := (⟨"java/lang/Record", "<init>", "()V"⟩ : MethodName)) rfl hown (mvT hZ (hw _ (List.mem_of_getElem? (i := 32) rfl))) (mvT hZ (hw _ (List.mem_of_getElem? (i := 33) rfl))) (mvT hZ (hw _ (List.mem_of_getElem? (i := 36) rfl))) (by decide) (backOf (W := 0) (rm6 l Z a0 hw [] a1 h0 n0 Zq1 ) hZ (hw _ (List.mem_of_getElem? (i := 36) rfl)) (hw _ (List.mem_of_getElem? (i := 35) rfl)) (by decide) (by decide)) (g := (mkF m 1 #[.val (.ref a1), .val (.ref a2), .val (.int p3), .val .null, .val .null] [(.ref a1)])) rfl (by rw [hml]; rfl) (Steps.refl _) (a := a1) (argsL := []) (rest := []) (lenOf pd_0 rfl) rfl (by show 2 * 0 + _ ≤ _; exact Nat.le_of_eq rfl) (hb hby d5_1) (fun _ _ => ⟨rfl, e0, (by decide : 0 + 0 ≤ _), (by decide : 0 + 0 ≤ _)⟩)
  dsimp only [Pt.U, Pt.locs, Pt.cells, Pt.slots] at X1 l1 y1 z1 st1 hQ1
  subst l1 y1 z1
  obtain ⟨rfl, rfl, e1⟩ := hQ1
  try rw [List.append_nil] at X1
  refine own_jump (f' := (mkF m 4 #[.val (.ref a1), .val (.ref a2), .val (.int p3), .val .null, .val .null] [])) st1 ?_
  refine own_step (f' := (mkF m 5 #[.val (.ref a1), .val (.ref a2), .val (.int p3), .val .null, .val .null] [(.ref a1)])) (fun _ k => XS.aloadN X1.here hx rfl (hb hby d5_4) rfl rfl k) ?_
  refine own_step (f' := (mkF m 6 #[.val (.ref a1), .val (.ref a2), .val (.int p3), .val .null, .val .null] [(.ref a2), (.ref a1)])) (fun _ k => XS.aloadN X1.here hx rfl (hb hby d5_5) rfl rfl k) ?_
  obtain ⟨T2, h2, X2, e2, W2, st2⟩ := putF X1 hx hZ hown (host := "") (Or.inl (hw _ (List.mem_of_getElem? (i := 38) rfl))) Via.refl e1 F_body_a1 E_a1 (Or.inr ⟨(hw _ (List.mem_of_getElem? (i := 39) rfl)), rfl, hnm⟩) (hw _ (List.mem_of_getElem? (i := 1) rfl)) (ty := (.object "java/util/List")) (by decide) rfl rfl (g := (mkF m 6 #[.val (.ref a1), .val (.ref a2), .val (.int p3), .val .null, .val .null] [(.ref a2), (.ref a1)])) rfl rfl (hb hby d5_6)
  obtain ⟨Lo2, X2, N2⟩ : ∃ K, Stand p l e R5 s m #[(.ref a1), (.ref a2), (.int p3), .null, .null] below meth c T2 K 0 0 ∧ Fr n0 K := ⟨_, X2, (Fr.snoc X2 N0 g_a1)⟩
  refine own_step (f' := (mkF m 9 #[.val (.ref a1), .val (.ref a2), .val (.int p3), .val .null, .val .null] [])) st2 ?_
  refine own_step (f' := (mkF m 10 #[.val (.ref a1), .val (.ref a2), .val (.int p3), .val .null, .val .null] [(.ref a1)])) (fun _ k => XS.aloadN X2.here hx rfl (hb hby d5_9) rfl rfl k) ?_
  refine own_step (f' := (mkF m 11 #[.val (.ref a1), .val (.ref a2), .val (.int p3), .val .null, .val .null] [(.int p3), (.ref a1)])) (fun _ k => XS.iloadN X2.here hx rfl (hb hby d5_10) rfl k) ?_
  obtain ⟨T3, h3, X3, e3, W3, st3⟩ := putF X2 hx hZ hown (host := "") (Or.inl (hw _ (List.mem_of_getElem? (i := 40) rfl))) Via.refl e2 (F_times_a1.other W2 (Or.inr (slot_ne (Or.inr (hw _ (List.mem_of_getElem? (i := 41) rfl))) (Or.inr (hw _ (List.mem_of_getElem? (i := 39) rfl))) (by decide) (t := .int) (t' := (.object "java/util/List")) (by decide) (by decide)))) (E_a1.wr W2) (Or.inr ⟨(hw _ (List.mem_of_getElem? (i := 41) rfl)), rfl, hnm⟩) (hw _ (List.mem_of_getElem? (i := 1) rfl)) (ty := .int) (by decide) rfl rfl (g := (mkF m 11 #[.val (.ref a1), .val (.ref a2), .val (.int p3), .val .null, .val .null] [(.int p3), (.ref a1)])) rfl rfl (hb hby d5_11)
  obtain ⟨Lo3, X3, N3⟩ : ∃ K, Stand p l e R5 s m #[(.ref a1), (.ref a2), (.int p3), .null, .null] below meth c T3 K 0 0 ∧ Fr n0 K := ⟨_, X3, (Fr.snoc X3 N2 g_a1)⟩
  refine own_step (f' := (mkF m 14 #[.val (.ref a1), .val (.ref a2), .val (.int p3), .val .null, .val .null] [])) st3 ?_
  refine own_step (f' := (mkF m 15 #[.val (.ref a1), .val (.ref a2), .val (.int p3), .val .null, .val .null] [(.ref a1)])) (fun _ k => XS.aloadN X3.here hx rfl (hb hby d5_14) rfl rfl k) ?_
  refine own_step (f' := (mkF m 16 #[.val (.ref a1), .val (.ref a2), .val (.int p3), .val .null, .val .null] [.null, (.ref a1)])) (fun _ k => XS.aloadN X3.here hx rfl (hb hby d5_15) rfl rfl k) ?_
  obtain ⟨T4, h4, X4, e4, W4, st4⟩ := putF X3 hx hZ hown (host := "") (Or.inl (hw _ (List.mem_of_getElem? (i := 42) rfl))) Via.refl e3 ((F_until_a1.other W2 (Or.inr (slot_ne (Or.inr (hw _ (List.mem_of_getElem? (i := 43) rfl))) (Or.inr (hw _ (List.mem_of_getElem? (i := 39) rfl))) (by decide) (t := (.object "wayfarer/process/RepeatStep$Condition")) (t' := (.object "java/util/List")) (by decide) (by decide)))).other W3 (Or.inr (slot_ne (Or.inr (hw _ (List.mem_of_getElem? (i := 43) rfl))) (Or.inr (hw _ (List.mem_of_getElem? (i := 41) rfl))) (by decide) (t := (.object "wayfarer/process/RepeatStep$Condition")) (t' := .int) (by decide) (by decide)))) ((E_a1.wr W2).wr W3) (Or.inr ⟨(hw _ (List.mem_of_getElem? (i := 43) rfl)), rfl, hnm⟩) (hw _ (List.mem_of_getElem? (i := 1) rfl)) (ty := (.object "wayfarer/process/RepeatStep$Condition")) (by decide) rfl rfl (g := (mkF m 16 #[.val (.ref a1), .val (.ref a2), .val (.int p3), .val .null, .val .null] [.null, (.ref a1)])) rfl rfl (hb hby d5_16)
  obtain ⟨Lo4, X4, N4⟩ : ∃ K, Stand p l e R5 s m #[(.ref a1), (.ref a2), (.int p3), .null, .null] below meth c T4 K 0 0 ∧ Fr n0 K := ⟨_, X4, (Fr.snoc X4 N3 g_a1)⟩
  refine own_step (f' := (mkF m 19 #[.val (.ref a1), .val (.ref a2), .val (.int p3), .val .null, .val .null] [])) st4 ?_
  refine own_step (f' := (mkF m 20 #[.val (.ref a1), .val (.ref a2), .val (.int p3), .val .null, .val .null] [(.ref a1)])) (fun _ k => XS.aloadN X4.here hx rfl (hb hby d5_19) rfl rfl k) ?_
  refine own_step (f' := (mkF m 22 #[.val (.ref a1), .val (.ref a2), .val (.int p3), .val .null, .val .null] [.null, (.ref a1)])) (fun _ k => XS.aload X4.here hx rfl (hb hby d5_20) rfl rfl k) ?_
  obtain ⟨T5, h5, X5, e5, W5, st5⟩ := putF X4 hx hZ hown (host := "") (Or.inl (hw _ (List.mem_of_getElem? (i := 44) rfl))) Via.refl e4 (((F_emit_a1.other W2 (Or.inr (slot_ne (Or.inr (hw _ (List.mem_of_getElem? (i := 45) rfl))) (Or.inr (hw _ (List.mem_of_getElem? (i := 39) rfl))) (by decide) (t := (.object "wayfarer/process/RepeatStep$Condition")) (t' := (.object "java/util/List")) (by decide) (by decide)))).other W3 (Or.inr (slot_ne (Or.inr (hw _ (List.mem_of_getElem? (i := 45) rfl))) (Or.inr (hw _ (List.mem_of_getElem? (i := 41) rfl))) (by decide) (t := (.object "wayfarer/process/RepeatStep$Condition")) (t' := .int) (by decide) (by decide)))).other W4 (Or.inr (slot_ne (Or.inr (hw _ (List.mem_of_getElem? (i := 45) rfl))) (Or.inr (hw _ (List.mem_of_getElem? (i := 43) rfl))) (by decide) (t := (.object "wayfarer/process/RepeatStep$Condition")) (t' := (.object "wayfarer/process/RepeatStep$Condition")) (by decide) (by decide)))) (((E_a1.wr W2).wr W3).wr W4) (Or.inr ⟨(hw _ (List.mem_of_getElem? (i := 45) rfl)), rfl, hnm⟩) (hw _ (List.mem_of_getElem? (i := 1) rfl)) (ty := (.object "wayfarer/process/RepeatStep$Condition")) (by decide) rfl rfl (g := (mkF m 22 #[.val (.ref a1), .val (.ref a2), .val (.int p3), .val .null, .val .null] [.null, (.ref a1)])) rfl rfl (hb hby d5_22)
  obtain ⟨Lo5, X5, N5⟩ : ∃ K, Stand p l e R5 s m #[(.ref a1), (.ref a2), (.int p3), .null, .null] below meth c T5 K 0 0 ∧ Fr n0 K := ⟨_, X5, (Fr.snoc X5 N4 g_a1)⟩
  refine own_step (f' := (mkF m 25 #[.val (.ref a1), .val (.ref a2), .val (.int p3), .val .null, .val .null] [])) st5 ?_
  refine own_out (v := none) X5 hlk (fun _ => rfl) (fun fs hr => X5.returnOut hx Bd.returns (hb hby d5_25) hr) (by decide) (by decide) ?_
  rw [e5]
  exact ⟨rfl, N5, (((((Keep.refl h0 [a1]).wr W2 (Or.inl (List.mem_of_getElem? (i := 0) rfl))).wr W3 (Or.inl (List.mem_of_getElem? (i := 0) rfl))).wr W4 (Or.inl (List.mem_of_getElem? (i := 0) rfl))).wr W5 (Or.inl (List.mem_of_getElem? (i := 0) rfl))), ((((E_a1.wr W2).wr W3).wr W4).wr W5), ((((F_body_a1.same W2).other W3 (Or.inr (slot_ne (Or.inr (hw _ (List.mem_of_getElem? (i := 39) rfl))) (Or.inr (hw _ (List.mem_of_getElem? (i := 41) rfl))) (by decide) (t := (.object "java/util/List")) (t' := .int) (by decide) (by decide)))).other W4 (Or.inr (slot_ne (Or.inr (hw _ (List.mem_of_getElem? (i := 39) rfl))) (Or.inr (hw _ (List.mem_of_getElem? (i := 43) rfl))) (by decide) (t := (.object "java/util/List")) (t' := (.object "wayfarer/process/RepeatStep$Condition")) (by decide) (by decide)))).other W5 (Or.inr (slot_ne (Or.inr (hw _ (List.mem_of_getElem? (i := 39) rfl))) (Or.inr (hw _ (List.mem_of_getElem? (i := 45) rfl))) (by decide) (t := (.object "java/util/List")) (t' := (.object "wayfarer/process/RepeatStep$Condition")) (by decide) (by decide)))), ((((F_times_a1.other W2 (Or.inr (slot_ne (Or.inr (hw _ (List.mem_of_getElem? (i := 41) rfl))) (Or.inr (hw _ (List.mem_of_getElem? (i := 39) rfl))) (by decide) (t := .int) (t' := (.object "java/util/List")) (by decide) (by decide)))).same W3).other W4 (Or.inr (slot_ne (Or.inr (hw _ (List.mem_of_getElem? (i := 41) rfl))) (Or.inr (hw _ (List.mem_of_getElem? (i := 43) rfl))) (by decide) (t := .int) (t' := (.object "wayfarer/process/RepeatStep$Condition")) (by decide) (by decide)))).other W5 (Or.inr (slot_ne (Or.inr (hw _ (List.mem_of_getElem? (i := 41) rfl))) (Or.inr (hw _ (List.mem_of_getElem? (i := 45) rfl))) (by decide) (t := .int) (t' := (.object "wayfarer/process/RepeatStep$Condition")) (by decide) (by decide)))), ((((F_until_a1.other W2 (Or.inr (slot_ne (Or.inr (hw _ (List.mem_of_getElem? (i := 43) rfl))) (Or.inr (hw _ (List.mem_of_getElem? (i := 39) rfl))) (by decide) (t := (.object "wayfarer/process/RepeatStep$Condition")) (t' := (.object "java/util/List")) (by decide) (by decide)))).other W3 (Or.inr (slot_ne (Or.inr (hw _ (List.mem_of_getElem? (i := 43) rfl))) (Or.inr (hw _ (List.mem_of_getElem? (i := 41) rfl))) (by decide) (t := (.object "wayfarer/process/RepeatStep$Condition")) (t' := .int) (by decide) (by decide)))).same W4).other W5 (Or.inr (slot_ne (Or.inr (hw _ (List.mem_of_getElem? (i := 43) rfl))) (Or.inr (hw _ (List.mem_of_getElem? (i := 45) rfl))) (by decide) (t := (.object "wayfarer/process/RepeatStep$Condition")) (t' := (.object "wayfarer/process/RepeatStep$Condition")) (by decide) (by decide)))), ((((F_emit_a1.other W2 (Or.inr (slot_ne (Or.inr (hw _ (List.mem_of_getElem? (i := 45) rfl))) (Or.inr (hw _ (List.mem_of_getElem? (i := 39) rfl))) (by decide) (t := (.object "wayfarer/process/RepeatStep$Condition")) (t' := (.object "java/util/List")) (by decide) (by decide)))).other W3 (Or.inr (slot_ne (Or.inr (hw _ (List.mem_of_getElem? (i := 45) rfl))) (Or.inr (hw _ (List.mem_of_getElem? (i := 41) rfl))) (by decide) (t := (.object "wayfarer/process/RepeatStep$Condition")) (t' := .int) (by decide) (by decide)))).other W4 (Or.inr (slot_ne (Or.inr (hw _ (List.mem_of_getElem? (i := 45) rfl))) (Or.inr (hw _ (List.mem_of_getElem? (i := 43) rfl))) (by decide) (t := (.object "wayfarer/process/RepeatStep$Condition")) (t' := (.object "wayfarer/process/RepeatStep$Condition")) (by decide) (by decide)))).same W5)⟩
def own_eqL (x y : Int64) : Int32 := if x = y then 1 else 0
theorem d7_0 : decode prog_134_method_6_code 0 = .ok (.lload_n 1, 1) := by decide +kernel
theorem d7_1 : decode prog_134_method_6_code 1 = .ok (.aload_n 0, 1) := by decide +kernel
theorem d7_2 : decode prog_134_method_6_code 2 = .ok (.getfield 13, 3) := by decide +kernel
theorem d7_5 : decode prog_134_method_6_code 5 = .ok (.i2l, 1) := by decide +kernel
theorem d7_6 : decode prog_134_method_6_code 6 = .ok (.lcmp, 1) := by decide +kernel
theorem d7_7 : decode prog_134_method_6_code 7 = .ok (.ifCond .ne 7, 3) := by decide +kernel
theorem d7_10 : decode prog_134_method_6_code 10 = .ok (.iconst 1, 1) := by decide +kernel
theorem d7_11 : decode prog_134_method_6_code 11 = .ok (.goto 4, 3) := by decide +kernel
theorem d7_14 : decode prog_134_method_6_code 14 = .ok (.iconst 0, 1) := by decide +kernel
theorem d7_15 : decode prog_134_method_6_code 15 = .ok (.ireturn, 1) := by decide +kernel
theorem ef_7 (m : MethodId) (x0 : Addr) (x1 : Int64) : entryFrame m #[(.ref x0), (.long x1)] 3 = mkF m 0 #[.val (.ref x0), .val (.long x1), .second] [] := by first | (simp [entryFrame, mkF, argsToLocals, Value.category]; done) | rfl
def Q7 (Z : State) (a1 : Addr) (q2 : Int64) (q3 : Int32) (h0 : Heap) (n0 : Nat) (v : Option Value) (h : Heap) (L : List Loc) : Prop := v = some (.int (own_eqL q2 q3.toInt64)) ∧ L = [] ∧ h = h0
abbrev R7 : Room := { frames := 0, cells := 0, slots := 0, locals := 0 }
set_option maxRecDepth 65536 in
set_option maxHeartbeats 40000000 in
theorem rm7 (l : Launch) (Z : State) (a0 : Array Value) (hw : ∀ d ∈ tables_1, d.before a0 Z = true) (ws : List Jvm.Cond) (a1 : Addr) (q2 : Int64) (q3 : Int32) (h0 : Heap) (n0 : Nat) (Z0 : n0 ≤ h0.size) (F_times_a1 : Fld Z h0 a1 "wayfarer/process/RepeatStep" "times" "I" (.int q3)) :
    MetFree l (⟨"wayfarer/process/RepeatStep", "endsAfter", "(J)Z"⟩ : MethodName) (head1 (Jvm.Cond.code (⟨"wayfarer/process/RepeatStep", "endsAfter", "(J)Z"⟩ : MethodName) prog_134_method_6_code 3 (some .boolean) :: ws) R7) (fun a U => a = #[(.ref a1), (.long q2)] ∧ Z.Warmed39 U.vm ∧ U.heap = h0) (fun _ _ _ _ _ => True) (fun _ U o U' => ∃ v L, o = .returned v ∧ Q7 Z a1 q2 q3 h0 n0 v U'.heap L ∧ FrameEnd U o U' L R7.cells R7.slots) := by
  refine MetFree.of_bodySF (plainFor_of_name pn_4) hisR ?_
  intro p e s m args below meth c s₁ Bd hml0 hP hK
  obtain ⟨rfl, hZ, hh⟩ := hP
  have hx := Bd.exec
  have hby := Bd.bytes
  have hlk : meth.locks = false := BodyLoose.notSynchronized Bd
  have hml : c.maxLocals = 3 := hml0
  have hown : s.vm.findClass "wayfarer/process/RepeatStep" = some m.cls := findClass_of_methodNamed Bd.named
  have hnm := (name_of_methodNamed Bd.named Bd.method).1
  have X0 : Stand p l e R7 s m #[(.ref a1), (.long q2)] below meth c s₁ [] 0 0 := Stand.of_body Bd
  have e0 : s₁.heap = h0 := by rw [← hh, Bd.state]; rfl
  have N0 := Fr.nil n0
  show own_Goes p e below s (Q7 Z a1 q2 q3 h0 n0) R7.cells R7.slots s₁ (entryFrame m #[(.ref a1), (.long q2)] 3)
  rw [ef_7 m a1 q2]
  refine own_step (f' := (mkF m 1 #[.val (.ref a1), .val (.long q2), .second] [(.long q2)])) (fun _ k => XS.lloadN X0.here hx rfl (hb hby d7_0) rfl k) ?_
  refine own_step (f' := (mkF m 2 #[.val (.ref a1), .val (.long q2), .second] [(.ref a1), (.long q2)])) (fun _ k => XS.aloadN X0.here hx rfl (hb hby d7_1) rfl rfl k) ?_
  obtain ⟨T1, X1, e1, st1⟩ := getF X0 hx hZ hown (host := "") (Or.inl (hw _ (List.mem_of_getElem? (i := 40) rfl))) Via.refl e0 F_times_a1 (g := (mkF m 2 #[.val (.ref a1), .val (.long q2), .second] [(.ref a1), (.long q2)])) rfl rfl (hb hby d7_2)
  refine own_step (f' := (mkF m 5 #[.val (.ref a1), .val (.long q2), .second] [(.int q3), (.long q2)])) st1 ?_
  refine own_step (f' := (mkF m 6 #[.val (.ref a1), .val (.long q2), .second] [(.long (q3.toInt64)), (.long q2)])) (fun _ k => XS.i2l X1.here hx rfl (hb hby d7_5) rfl k) ?_
  refine own_step (f' := (mkF m 7 #[.val (.ref a1), .val (.long q2), .second] [(.int (lcmpW q2 (q3.toInt64)))])) (fun _ k => XS.lcmp X1.here hx rfl (hb hby d7_6) rfl k) ?_
  by_cases hc7_2 : q2 = (q3.toInt64)
  · refine own_step (f' := (mkF m 10 #[.val (.ref a1), .val (.long q2), .second] [])) (fun _ k => XS.ifNo X1.here hx rfl (hb hby d7_7) rfl ((if0 _ _).trans (teq ((lw_eq _ _).mpr hc7_2)).2) k) ?_
    refine own_step (f' := (mkF m 11 #[.val (.ref a1), .val (.long q2), .second] [(.int (1 : Int32))])) (fun _ k => XS.iconst X1.here hx rfl (hb hby d7_10) k) ?_
    refine own_step (f' := (mkF m 15 #[.val (.ref a1), .val (.long q2), .second] [(.int (1 : Int32))])) (fun _ k => XS.goto X1.here hx rfl (pc0 := 11) (pc' := 15) rfl (hb hby d7_11) (by decide) (by decide) k) ?_
    refine own_out (v := some (.int (1 : Int32))) X1 hlk (fun h => by rw [Bd.returns] at h; cases h) (fun fs hr => retN X1 hx (t := .boolean) Bd.returns (by simp) (hb hby d7_15) hr) (by decide) (by decide) ?_
    rw [e1]
    exact ⟨(by rw [own_eqL, if_pos hc7_2]), rfl, rfl⟩
  · refine own_step (f' := (mkF m 14 #[.val (.ref a1), .val (.long q2), .second] [])) (fun _ k => XS.ifYes X1.here hx rfl (pc0 := 7) (pc' := 14) rfl (hb hby d7_7) rfl ((if0 _ _).trans (feq (fun q => hc7_2 ((lw_eq _ _).mp q))).2) (by decide) (by decide) k) ?_
    refine own_step (f' := (mkF m 15 #[.val (.ref a1), .val (.long q2), .second] [(.int (0 : Int32))])) (fun _ k => XS.iconst X1.here hx rfl (hb hby d7_14) k) ?_
    refine own_out (v := some (.int (0 : Int32))) X1 hlk (fun h => by rw [Bd.returns] at h; cases h) (fun fs hr => retN X1 hx (t := .boolean) Bd.returns (by simp) (hb hby d7_15) hr) (by decide) (by decide) ?_
    rw [e1]
    exact ⟨(by rw [own_eqL, if_neg hc7_2]), rfl, rfl⟩
theorem own_ne0 (x y : Int64) (h : x.toInt ≠ y.toInt) : own_eqL x y = (0 : Int32) := by
  unfold own_eqL; rw [if_neg]; exact fun q => h (by rw [q])
theorem own_f1 (t : Int32) : ¬ (own_eqL t.toInt64 t.toInt64 = (0 : Int32)) := by
  unfold own_eqL; rw [if_pos rfl]; decide
theorem own_up (t : Int32) : own_eqL (t.toInt64 + (4294967296 : Int64)) t.toInt64 = (0 : Int32) := by
  apply own_ne0
  have h1 := c_ladd t.toInt64 4294967296
  have h2 := c_i2l t
  have h3 := rng32 t
  have h4 := rng64 (t.toInt64 + 4294967296)
  have e1 : (4294967296 : Int64).toInt = 4294967296 := by decide
  omega
theorem own_dn (t : Int32) : own_eqL (t.toInt64 - (4294967296 : Int64)) t.toInt64 = (0 : Int32) := by
  apply own_ne0
  have h1 := c_lsub t.toInt64 4294967296
  have h2 := c_i2l t
  have h3 := rng32 t
  have h4 := rng64 (t.toInt64 - 4294967296)
  have e1 : (4294967296 : Int64).toInt = 4294967296 := by decide
  omega
theorem own_un (x : Int64) : own_eqL (x &&& (9223372036854775807 : Int64)) (-1 : Int32).toInt64 = (0 : Int32) := by
  apply own_ne0
  have h1 := c_maskL x 9223372036854775807 63 (by decide) (by decide)
  have e1 : (-1 : Int32).toInt64.toInt = -1 := by decide
  omega
theorem pd_1 : parseMethodDescriptor "(Ljava/util/List;ILwayfarer/process/RepeatStep$Condition;Lwayfarer/process/RepeatStep$Condition;)V" = some ⟨[(.object "java/util/List"), .int, (.object "wayfarer/process/RepeatStep$Condition"), (.object "wayfarer/process/RepeatStep$Condition")], none⟩ := by decide +kernel
theorem pd_2 : parseMethodDescriptor "(J)Z" = some ⟨[.long], some .boolean⟩ := by decide +kernel
theorem pn_5 : plainName "wayfarer/process/RepeatStepEndsAfterPinLaw" = true := by first | (simp [plainName, overriddenIn]; done) | decide +kernel
theorem ef_0 (m : MethodId) (x0 : Int32) (x1 : Int64) : entryFrame m #[(.int x0), (.long x1)] maxLocals = mkF m 0 #[.val (.int x0), .val (.long x1), .second, .unset, .unset, .unset, .unset, .unset, .unset, .unset, .unset, .unset] [] := by first | (simp [entryFrame, mkF, argsToLocals, Value.category, maxLocals]; done) | rfl
def Q0 (Z : State) (i1 : Int32) (i2 : Int64) (w1 : Addr) (w2 : Addr) (h0 : Heap) (n0 : Nat) (v : Option Value) (h : Heap) (L : List Loc) : Prop := v = some (.int 1) ∧ Fr n0 L
set_option maxRecDepth 65536 in
set_option maxHeartbeats 40000000 in
theorem rm0 (l : Launch) (Z : State) (a0 : Array Value) (hw : ∀ d ∈ tables_1, d.before a0 Z = true) (ws : List Jvm.Cond) (i1 : Int32) (i2 : Int64) (w1 : Addr) (w2 : Addr) (h0 : Heap) (n0 : Nat) (Z0 : n0 ≤ h0.size) (S_DEFAULTCAPACITY_EMPTY_ELEMENTDATA : Sta Z h0 "java/util/ArrayList" "DEFAULTCAPACITY_EMPTY_ELEMENTDATA" "[Ljava/lang/Object;" (.ref w1)) (S_AHEAD : Sta Z h0 "wayfarer/process/RepeatStep" "AHEAD" "Lwayfarer/process/RepeatStep;" (.ref w2)) (E_w2 : Exa Z h0 w2 "wayfarer/process/RepeatStep") (F_times_w2 : Fld Z h0 w2 "wayfarer/process/RepeatStep" "times" "I" (.int (-1 : Int32))) :
    MetFree l x (head1 (Jvm.Cond.code x code maxLocals ret :: ws) room_1) (fun a U => a = #[(.int i1), (.long i2)] ∧ Z.Warmed39 U.vm ∧ U.heap = h0) (fun _ _ _ _ _ => True) (fun _ U o U' => ∃ v L, o = .returned v ∧ Q0 Z i1 i2 w1 w2 h0 n0 v U'.heap L ∧ FrameEnd U o U' L room_1.cells room_1.slots) := by
  refine MetFree.of_bodySF (plainFor_of_name pn_5) hisR ?_
  intro p e s m args below meth c s₁ Bd hml0 hP hK
  obtain ⟨rfl, hZ, hh⟩ := hP
  have hx := Bd.exec
  have hby := Bd.bytes
  have hlk : meth.locks = false := BodyLoose.notSynchronized Bd
  have hml : c.maxLocals = 12 := hml0
  have hown : s.vm.findClass "wayfarer/process/RepeatStepEndsAfterPinLaw" = some m.cls := findClass_of_methodNamed Bd.named
  have hnm := (name_of_methodNamed Bd.named Bd.method).1
  have X0 : Stand p l e room_1 s m #[(.int i1), (.long i2)] below meth c s₁ [] 0 0 := Stand.of_body Bd
  have e0 : s₁.heap = h0 := by rw [← hh, Bd.state]; rfl
  have N0 := Fr.nil n0
  show own_Goes p e below s (Q0 Z i1 i2 w1 w2 h0 n0) room_1.cells room_1.slots s₁ (entryFrame m #[(.int i1), (.long i2)] maxLocals)
  rw [ef_0 m i1 i2]
  obtain ⟨T1, h1, X1, e1, E1, A1, D1, -, st1⟩ := newO X0 hx hZ hown (hw _ (List.mem_of_getElem? (i := 0) rfl)) (hw _ (List.mem_of_getElem? (i := 1) rfl)) (hw _ (List.mem_of_getElem? (i := 2) rfl)) e0 (g := (mkF m 0 #[.val (.int i1), .val (.long i2), .second, .unset, .unset, .unset, .unset, .unset, .unset, .unset, .unset, .unset] [])) rfl (hb hby at_0) (by decide) (by decide)
  obtain ⟨b1, g1⟩ : ∃ z, z = h0.size := ⟨_, rfl⟩
  rw [← g1] at A1 D1 st1
  have ne_w2_b1 : w2 ≠ b1 := Nat.ne_of_lt (Nat.lt_of_lt_of_le E_w2.lt (Nat.le_of_eq g1.symm))
  have g_b1 : n0 ≤ b1 := Nat.le_trans Z0 (Nat.le_of_eq g1.symm)
  have F_body_b1 : Fld Z h1 b1 "wayfarer/process/RepeatStep" "body" "Ljava/util/List;" .null := D1 (Or.inr (hw _ (List.mem_of_getElem? (i := 39) rfl))) (ty := (.object "java/util/List")) (by decide)
  have F_times_b1 : Fld Z h1 b1 "wayfarer/process/RepeatStep" "times" "I" (.int (0 : Int32)) := D1 (Or.inr (hw _ (List.mem_of_getElem? (i := 41) rfl))) (ty := .int) (by decide)
  have F_until_b1 : Fld Z h1 b1 "wayfarer/process/RepeatStep" "until" "Lwayfarer/process/RepeatStep$Condition;" .null := D1 (Or.inr (hw _ (List.mem_of_getElem? (i := 43) rfl))) (ty := (.object "wayfarer/process/RepeatStep$Condition")) (by decide)
  have F_emit_b1 : Fld Z h1 b1 "wayfarer/process/RepeatStep" "emit" "Lwayfarer/process/RepeatStep$Condition;" .null := D1 (Or.inr (hw _ (List.mem_of_getElem? (i := 45) rfl))) (ty := (.object "wayfarer/process/RepeatStep$Condition")) (by decide)
  refine own_step (f' := (mkF m 3 #[.val (.int i1), .val (.long i2), .second, .unset, .unset, .unset, .unset, .unset, .unset, .unset, .unset, .unset] [(.ref b1)])) st1 ?_
  refine own_step (f' := (mkF m 4 #[.val (.int i1), .val (.long i2), .second, .unset, .unset, .unset, .unset, .unset, .unset, .unset, .unset, .unset] [(.ref b1), (.ref b1)])) (fun _ k => XS.dup X1.here hx rfl (hb hby at_3) rfl rfl k) ?_
  obtain ⟨T2, h2, X2, e2, E2, A2, D2, -, st2⟩ := newO X1 hx hZ hown (hw _ (List.mem_of_getElem? (i := 3) rfl)) (hw _ (List.mem_of_getElem? (i := 4) rfl)) (hw _ (List.mem_of_getElem? (i := 5) rfl)) e1 (g := (mkF m 4 #[.val (.int i1), .val (.long i2), .second, .unset, .unset, .unset, .unset, .unset, .unset, .unset, .unset, .unset] [(.ref b1), (.ref b1)])) rfl (hb hby at_4) (by decide) (by decide)
  obtain ⟨b2, g2⟩ : ∃ z, z = h1.size := ⟨_, rfl⟩
  rw [← g2] at A2 D2 st2
  have ne_w2_b2 : w2 ≠ b2 := Nat.ne_of_lt (Nat.lt_of_lt_of_le (E_w2.ext E1).lt (Nat.le_of_eq g2.symm))
  have ne_b1_b2 : b1 ≠ b2 := Nat.ne_of_lt (Nat.lt_of_lt_of_le A1.lt (Nat.le_of_eq g2.symm))
  have g_b2 : n0 ≤ b2 := Nat.le_trans (Nat.le_trans Z0 E1.1) (Nat.le_of_eq g2.symm)
  have F_modCount_b2 : Fld Z h2 b2 "java/util/AbstractList" "modCount" "I" (.int (0 : Int32)) := D2 (Or.inl (hw _ (List.mem_of_getElem? (i := 25) rfl))) (ty := .int) (by decide)
  have F_elementData_b2 : Fld Z h2 b2 "java/util/ArrayList" "elementData" "[Ljava/lang/Object;" .null := D2 (Or.inl (hw _ (List.mem_of_getElem? (i := 28) rfl))) (ty := (.array (.object "java/lang/Object"))) (by decide)
  refine own_step (f' := (mkF m 7 #[.val (.int i1), .val (.long i2), .second, .unset, .unset, .unset, .unset, .unset, .unset, .unset, .unset, .unset] [(.ref b2), (.ref b1), (.ref b1)])) st2 ?_
  refine own_step (f' := (mkF m 8 #[.val (.int i1), .val (.long i2), .second, .unset, .unset, .unset, .unset, .unset, .unset, .unset, .unset, .unset] [(.ref b2), (.ref b2), (.ref b1), (.ref b1)])) (fun _ k => XS.dup X2.here hx rfl (hb hby at_7) rfl rfl k) ?_
  have Zq3 : n0 ≤ h2.size := (Nat.le_trans (Nat.le_trans Z0 E1.1) E2.1)
  obtain ⟨_, _, ⟨T3, L3, k3, n3⟩, -, X3, ⟨Lc3, hQ3, l3, y3, z3⟩, st3⟩ := X2.specialBack hx (y := (⟨"java/util/ArrayList", "<init>", "()V"⟩ : MethodName)) rfl hown (mvT hZ (hw _ (List.mem_of_getElem? (i := 6) rfl))) (mvT hZ (hw _ (List.mem_of_getElem? (i := 7) rfl))) (mvT hZ (hw _ (List.mem_of_getElem? (i := 8) rfl))) (by decide) (backOf (W := 3) (rm1 l Z a0 hw [] b2 (.int (0 : Int32)) .null w1 h2 n0 Zq3 A2 F_modCount_b2 g_b2 ((S_DEFAULTCAPACITY_EMPTY_ELEMENTDATA.ext E1).ext E2) F_elementData_b2) hZ (hw _ (List.mem_of_getElem? (i := 8) rfl)) (hw _ (List.mem_of_getElem? (i := 5) rfl)) (by decide) (by decide)) (g := (mkF m 8 #[.val (.int i1), .val (.long i2), .second, .unset, .unset, .unset, .unset, .unset, .unset, .unset, .unset, .unset] [(.ref b2), (.ref b2), (.ref b1), (.ref b1)])) rfl (by rw [hml]; rfl) (Steps.refl _) (a := b2) (argsL := []) (rest := [(.ref b2), (.ref b1), (.ref b1)]) (lenOf pd_0 rfl) rfl (by show 2 * 0 + _ ≤ _; exact Nat.le_of_eq rfl) (hb hby at_8) (fun _ _ => ⟨rfl, e2, (by decide : 2 + 0 ≤ _), (by decide : 7 + 0 ≤ _)⟩)
  dsimp only [Pt.U, Pt.locs, Pt.cells, Pt.slots] at X3 l3 y3 z3 st3 hQ3
  subst l3 y3 z3
  obtain ⟨rfl, Nq3, K3, P3_0, P3_1, P3_2⟩ := hQ3
  obtain ⟨Lo3, X3, N3⟩ : ∃ K, Stand p l e room_1 s m #[(.int i1), (.long i2)] below meth c T3 K 2 7 ∧ Fr n0 K := ⟨_, X3, (Fr.app N0 Nq3)⟩
  refine own_jump (f' := (mkF m 11 #[.val (.int i1), .val (.long i2), .second, .unset, .unset, .unset, .unset, .unset, .unset, .unset, .unset, .unset] [(.ref b2), (.ref b1), (.ref b1)])) st3 ?_
  refine own_step (f' := (mkF m 12 #[.val (.int i1), .val (.long i2), .second, .unset, .unset, .unset, .unset, .unset, .unset, .unset, .unset, .unset] [(.int i1), (.ref b2), (.ref b1), (.ref b1)])) (fun _ k => XS.iloadN X3.here hx rfl (hb hby at_11) rfl k) ?_
  refine own_step (f' := (mkF m 13 #[.val (.int i1), .val (.long i2), .second, .unset, .unset, .unset, .unset, .unset, .unset, .unset, .unset, .unset] [.null, (.int i1), (.ref b2), (.ref b1), (.ref b1)])) (fun _ k => XS.aconstNull X3.here hx rfl (hb hby at_12) k) ?_
  refine own_step (f' := (mkF m 14 #[.val (.int i1), .val (.long i2), .second, .unset, .unset, .unset, .unset, .unset, .unset, .unset, .unset, .unset] [.null, .null, (.int i1), (.ref b2), (.ref b1), (.ref b1)])) (fun _ k => XS.aconstNull X3.here hx rfl (hb hby at_13) k) ?_
  have Zq4 : n0 ≤ T3.heap.size := (Nat.le_trans (Nat.le_trans (Nat.le_trans Z0 E1.1) E2.1) K3.1)
  obtain ⟨_, _, ⟨T4, L4, k4, n4⟩, -, X4, ⟨Lc4, hQ4, l4, y4, z4⟩, st4⟩ := X3.specialBack hx (y := (⟨"wayfarer/process/RepeatStep", "<init>", "(Ljava/util/List;ILwayfarer/process/RepeatStep$Condition;Lwayfarer/process/RepeatStep$Condition;)V"⟩ : MethodName)) rfl hown (mvT hZ (hw _ (List.mem_of_getElem? (i := 29) rfl))) (mvT hZ (hw _ (List.mem_of_getElem? (i := 30) rfl))) (mvT hZ (hw _ (List.mem_of_getElem? (i := 31) rfl))) (by decide) (backOf (W := 1) (rm5 l Z a0 hw [] b1 b2 i1 .null (.int (0 : Int32)) .null .null T3.heap n0 Zq4 ((A1.ext E2).keep K3) ((F_body_b1.ext E2).keep K3 (ninS ne_b1_b2 nin0)) ((F_times_b1.ext E2).keep K3 (ninS ne_b1_b2 nin0)) ((F_until_b1.ext E2).keep K3 (ninS ne_b1_b2 nin0)) ((F_emit_b1.ext E2).keep K3 (ninS ne_b1_b2 nin0)) g_b1) hZ (hw _ (List.mem_of_getElem? (i := 31) rfl)) (hw _ (List.mem_of_getElem? (i := 2) rfl)) (by decide) (by decide)) (g := (mkF m 14 #[.val (.int i1), .val (.long i2), .second, .unset, .unset, .unset, .unset, .unset, .unset, .unset, .unset, .unset] [.null, .null, (.int i1), (.ref b2), (.ref b1), (.ref b1)])) rfl (by rw [hml]; rfl) (Steps.refl _) (a := b1) (argsL := [(.ref b2), (.int i1), .null, .null]) (rest := [(.ref b1)]) (lenOf pd_1 rfl) rfl (by show 2 * 0 + _ ≤ _; exact Nat.le_of_eq rfl) (hb hby at_14) (fun _ _ => ⟨rfl, rfl, (by decide : 2 + 0 ≤ _), (by decide : 7 + 0 ≤ _)⟩)
  dsimp only [Pt.U, Pt.locs, Pt.cells, Pt.slots] at X4 l4 y4 z4 st4 hQ4
  subst l4 y4 z4
  obtain ⟨rfl, Nq4, K4, P4_0, P4_1, P4_2, P4_3, P4_4⟩ := hQ4
  obtain ⟨Lo4, X4, N4⟩ : ∃ K, Stand p l e room_1 s m #[(.int i1), (.long i2)] below meth c T4 K 2 7 ∧ Fr n0 K := ⟨_, X4, (Fr.app N3 Nq4)⟩
  refine own_jump (f' := (mkF m 17 #[.val (.int i1), .val (.long i2), .second, .unset, .unset, .unset, .unset, .unset, .unset, .unset, .unset, .unset] [(.ref b1)])) st4 ?_
  refine own_step (f' := (mkF m 18 #[.val (.int i1), .val (.long i2), .second, .val (.ref b1), .unset, .unset, .unset, .unset, .unset, .unset, .unset, .unset] [])) (fun _ k => XS.astoreN X4.here hx rfl (hb hby at_17) rfl rfl (l' := #[.val (.int i1), .val (.long i2), .second, .val (.ref b1), .unset, .unset, .unset, .unset, .unset, .unset, .unset, .unset]) rfl k) ?_
  refine own_step (f' := (mkF m 19 #[.val (.int i1), .val (.long i2), .second, .val (.ref b1), .unset, .unset, .unset, .unset, .unset, .unset, .unset, .unset] [(.long i2)])) (fun _ k => XS.lloadN X4.here hx rfl (hb hby at_18) rfl k) ?_
  refine own_step (f' := (mkF m 22 #[.val (.int i1), .val (.long i2), .second, .val (.ref b1), .unset, .unset, .unset, .unset, .unset, .unset, .unset, .unset] [(.long (9223372036854775807 : Int64)), (.long i2)])) (fun _ k => X4.ldc2Long hx hown (mvT hZ (hw _ (List.mem_of_getElem? (i := 46) rfl))) (g := (mkF m 19 #[.val (.int i1), .val (.long i2), .second, .val (.ref b1), .unset, .unset, .unset, .unset, .unset, .unset, .unset, .unset] [(.long i2)])) rfl (hb hby at_19) _ k) ?_
  refine own_step (f' := (mkF m 23 #[.val (.int i1), .val (.long i2), .second, .val (.ref b1), .unset, .unset, .unset, .unset, .unset, .unset, .unset, .unset] [(.long (i2 &&& (9223372036854775807 : Int64)))])) (fun _ k => XS.land X4.here hx rfl (hb hby at_22) rfl k) ?_
  refine own_step (f' := (mkF m 25 #[.val (.int i1), .val (.long i2), .second, .val (.ref b1), .val (.long (i2 &&& (9223372036854775807 : Int64))), .second, .unset, .unset, .unset, .unset, .unset, .unset] [])) (fun _ k => XS.lstore X4.here hx rfl (hb hby at_23) rfl (l' := #[.val (.int i1), .val (.long i2), .second, .val (.ref b1), .val (.long (i2 &&& (9223372036854775807 : Int64))), .second, .unset, .unset, .unset, .unset, .unset, .unset]) rfl k) ?_
  refine own_step (f' := (mkF m 26 #[.val (.int i1), .val (.long i2), .second, .val (.ref b1), .val (.long (i2 &&& (9223372036854775807 : Int64))), .second, .unset, .unset, .unset, .unset, .unset, .unset] [(.ref b1)])) (fun _ k => XS.aloadN X4.here hx rfl (hb hby at_25) rfl rfl k) ?_
  refine own_step (f' := (mkF m 27 #[.val (.int i1), .val (.long i2), .second, .val (.ref b1), .val (.long (i2 &&& (9223372036854775807 : Int64))), .second, .unset, .unset, .unset, .unset, .unset, .unset] [(.int i1), (.ref b1)])) (fun _ k => XS.iloadN X4.here hx rfl (hb hby at_26) rfl k) ?_
  refine own_step (f' := (mkF m 28 #[.val (.int i1), .val (.long i2), .second, .val (.ref b1), .val (.long (i2 &&& (9223372036854775807 : Int64))), .second, .unset, .unset, .unset, .unset, .unset, .unset] [(.long (i1.toInt64)), (.ref b1)])) (fun _ k => XS.i2l X4.here hx rfl (hb hby at_27) rfl k) ?_
  have Zq5 : n0 ≤ T4.heap.size := (Nat.le_trans (Nat.le_trans (Nat.le_trans (Nat.le_trans Z0 E1.1) E2.1) K3.1) K4.1)
  obtain ⟨cq5, kq5, q5a, q5b, q5c⟩ := isOf hZ rfl P4_0
  obtain ⟨_, _, ⟨T5, L5, k5, n5⟩, -, X5, ⟨Lc5, hQ5, l5, y5, z5⟩, st5⟩ := X4.virtualBack hx (y := (⟨"wayfarer/process/RepeatStep", "endsAfter", "(J)Z"⟩ : MethodName)) (z := (⟨"wayfarer/process/RepeatStep", "endsAfter", "(J)Z"⟩ : MethodName)) hown (mvT hZ (hw _ (List.mem_of_getElem? (i := 47) rfl))) (mvT hZ (hw _ (List.mem_of_getElem? (i := 48) rfl))) (notFace_of_selects (args := #[]) (mvT hZ (hw _ (List.mem_of_getElem? (i := 50) rfl)))) (mvT hZ (hw _ (List.mem_of_getElem? (i := 50) rfl))) (mvT hZ (hw _ (List.mem_of_getElem? (i := 49) rfl))) (by decide) (backOf (W := 0) (rm7 l Z a0 hw [] b1 (i1.toInt64) i1 T4.heap n0 Zq5 P4_2) hZ (hw _ (List.mem_of_getElem? (i := 51) rfl)) (hw _ (List.mem_of_getElem? (i := 2) rfl)) (by decide) (by decide)) q5a q5c (g := (mkF m 28 #[.val (.int i1), .val (.long i2), .second, .val (.ref b1), .val (.long (i2 &&& (9223372036854775807 : Int64))), .second, .unset, .unset, .unset, .unset, .unset, .unset] [(.long (i1.toInt64)), (.ref b1)])) rfl (by rw [hml]; rfl) (Steps.refl _) (argsL := [(.long (i1.toInt64))]) (rest := []) (lenOf pd_2 rfl) rfl (by show 2 * 0 + _ ≤ _; exact Nat.le_of_eq rfl) (hb hby at_28) (fun _ _ => ⟨rfl, rfl, (by decide : 2 + 0 ≤ _), (by decide : 7 + 0 ≤ _)⟩)
  dsimp only [Pt.U, Pt.locs, Pt.cells, Pt.slots] at X5 l5 y5 z5 st5 hQ5
  subst l5 y5 z5
  obtain ⟨rfl, rfl, e5⟩ := hQ5
  try rw [List.append_nil] at X5
  refine own_jump (f' := (mkF m 31 #[.val (.int i1), .val (.long i2), .second, .val (.ref b1), .val (.long (i2 &&& (9223372036854775807 : Int64))), .second, .unset, .unset, .unset, .unset, .unset, .unset] [(.int (own_eqL (i1.toInt64) i1.toInt64))])) st5 ?_
  refine own_step (f' := (mkF m 33 #[.val (.int i1), .val (.long i2), .second, .val (.ref b1), .val (.long (i2 &&& (9223372036854775807 : Int64))), .second, .val (.int (own_eqL (i1.toInt64) i1.toInt64)), .unset, .unset, .unset, .unset, .unset] [])) (fun _ k => XS.istore X5.here hx rfl (hb hby at_31) rfl (l' := #[.val (.int i1), .val (.long i2), .second, .val (.ref b1), .val (.long (i2 &&& (9223372036854775807 : Int64))), .second, .val (.int (own_eqL (i1.toInt64) i1.toInt64)), .unset, .unset, .unset, .unset, .unset]) rfl k) ?_
  refine own_step (f' := (mkF m 34 #[.val (.int i1), .val (.long i2), .second, .val (.ref b1), .val (.long (i2 &&& (9223372036854775807 : Int64))), .second, .val (.int (own_eqL (i1.toInt64) i1.toInt64)), .unset, .unset, .unset, .unset, .unset] [(.ref b1)])) (fun _ k => XS.aloadN X5.here hx rfl (hb hby at_33) rfl rfl k) ?_
  refine own_step (f' := (mkF m 35 #[.val (.int i1), .val (.long i2), .second, .val (.ref b1), .val (.long (i2 &&& (9223372036854775807 : Int64))), .second, .val (.int (own_eqL (i1.toInt64) i1.toInt64)), .unset, .unset, .unset, .unset, .unset] [(.long i2), (.ref b1)])) (fun _ k => XS.lloadN X5.here hx rfl (hb hby at_34) rfl k) ?_
  have Zq6 : n0 ≤ T4.heap.size := (Nat.le_trans (Nat.le_trans (Nat.le_trans (Nat.le_trans Z0 E1.1) E2.1) K3.1) K4.1)
  obtain ⟨cq6, kq6, q6a, q6b, q6c⟩ := isOf hZ e5 P4_0
  obtain ⟨_, _, ⟨T6, L6, k6, n6⟩, -, X6, ⟨Lc6, hQ6, l6, y6, z6⟩, st6⟩ := X5.virtualBack hx (y := (⟨"wayfarer/process/RepeatStep", "endsAfter", "(J)Z"⟩ : MethodName)) (z := (⟨"wayfarer/process/RepeatStep", "endsAfter", "(J)Z"⟩ : MethodName)) hown (mvT hZ (hw _ (List.mem_of_getElem? (i := 47) rfl))) (mvT hZ (hw _ (List.mem_of_getElem? (i := 48) rfl))) (notFace_of_selects (args := #[]) (mvT hZ (hw _ (List.mem_of_getElem? (i := 50) rfl)))) (mvT hZ (hw _ (List.mem_of_getElem? (i := 50) rfl))) (mvT hZ (hw _ (List.mem_of_getElem? (i := 49) rfl))) (by decide) (backOf (W := 0) (rm7 l Z a0 hw [] b1 i2 i1 T4.heap n0 Zq6 P4_2) hZ (hw _ (List.mem_of_getElem? (i := 51) rfl)) (hw _ (List.mem_of_getElem? (i := 2) rfl)) (by decide) (by decide)) q6a q6c (g := (mkF m 35 #[.val (.int i1), .val (.long i2), .second, .val (.ref b1), .val (.long (i2 &&& (9223372036854775807 : Int64))), .second, .val (.int (own_eqL (i1.toInt64) i1.toInt64)), .unset, .unset, .unset, .unset, .unset] [(.long i2), (.ref b1)])) rfl (by rw [hml]; rfl) (Steps.refl _) (argsL := [(.long i2)]) (rest := []) (lenOf pd_2 rfl) rfl (by show 2 * 0 + _ ≤ _; exact Nat.le_of_eq rfl) (hb hby at_35) (fun _ _ => ⟨rfl, e5, (by decide : 2 + 0 ≤ _), (by decide : 7 + 0 ≤ _)⟩)
  dsimp only [Pt.U, Pt.locs, Pt.cells, Pt.slots] at X6 l6 y6 z6 st6 hQ6
  subst l6 y6 z6
  obtain ⟨rfl, rfl, e6⟩ := hQ6
  try rw [List.append_nil] at X6
  refine own_jump (f' := (mkF m 38 #[.val (.int i1), .val (.long i2), .second, .val (.ref b1), .val (.long (i2 &&& (9223372036854775807 : Int64))), .second, .val (.int (own_eqL (i1.toInt64) i1.toInt64)), .unset, .unset, .unset, .unset, .unset] [(.int (own_eqL i2 i1.toInt64))])) st6 ?_
  refine own_step (f' := (mkF m 40 #[.val (.int i1), .val (.long i2), .second, .val (.ref b1), .val (.long (i2 &&& (9223372036854775807 : Int64))), .second, .val (.int (own_eqL (i1.toInt64) i1.toInt64)), .val (.int (own_eqL i2 i1.toInt64)), .unset, .unset, .unset, .unset] [])) (fun _ k => XS.istore X6.here hx rfl (hb hby at_38) rfl (l' := #[.val (.int i1), .val (.long i2), .second, .val (.ref b1), .val (.long (i2 &&& (9223372036854775807 : Int64))), .second, .val (.int (own_eqL (i1.toInt64) i1.toInt64)), .val (.int (own_eqL i2 i1.toInt64)), .unset, .unset, .unset, .unset]) rfl k) ?_
  refine own_step (f' := (mkF m 41 #[.val (.int i1), .val (.long i2), .second, .val (.ref b1), .val (.long (i2 &&& (9223372036854775807 : Int64))), .second, .val (.int (own_eqL (i1.toInt64) i1.toInt64)), .val (.int (own_eqL i2 i1.toInt64)), .unset, .unset, .unset, .unset] [(.ref b1)])) (fun _ k => XS.aloadN X6.here hx rfl (hb hby at_40) rfl rfl k) ?_
  refine own_step (f' := (mkF m 42 #[.val (.int i1), .val (.long i2), .second, .val (.ref b1), .val (.long (i2 &&& (9223372036854775807 : Int64))), .second, .val (.int (own_eqL (i1.toInt64) i1.toInt64)), .val (.int (own_eqL i2 i1.toInt64)), .unset, .unset, .unset, .unset] [(.int i1), (.ref b1)])) (fun _ k => XS.iloadN X6.here hx rfl (hb hby at_41) rfl k) ?_
  refine own_step (f' := (mkF m 43 #[.val (.int i1), .val (.long i2), .second, .val (.ref b1), .val (.long (i2 &&& (9223372036854775807 : Int64))), .second, .val (.int (own_eqL (i1.toInt64) i1.toInt64)), .val (.int (own_eqL i2 i1.toInt64)), .unset, .unset, .unset, .unset] [(.long (i1.toInt64)), (.ref b1)])) (fun _ k => XS.i2l X6.here hx rfl (hb hby at_42) rfl k) ?_
  refine own_step (f' := (mkF m 46 #[.val (.int i1), .val (.long i2), .second, .val (.ref b1), .val (.long (i2 &&& (9223372036854775807 : Int64))), .second, .val (.int (own_eqL (i1.toInt64) i1.toInt64)), .val (.int (own_eqL i2 i1.toInt64)), .unset, .unset, .unset, .unset] [(.long (4294967296 : Int64)), (.long (i1.toInt64)), (.ref b1)])) (fun _ k => X6.ldc2Long hx hown (mvT hZ (hw _ (List.mem_of_getElem? (i := 52) rfl))) (g := (mkF m 43 #[.val (.int i1), .val (.long i2), .second, .val (.ref b1), .val (.long (i2 &&& (9223372036854775807 : Int64))), .second, .val (.int (own_eqL (i1.toInt64) i1.toInt64)), .val (.int (own_eqL i2 i1.toInt64)), .unset, .unset, .unset, .unset] [(.long (i1.toInt64)), (.ref b1)])) rfl (hb hby at_43) _ k) ?_
  refine own_step (f' := (mkF m 47 #[.val (.int i1), .val (.long i2), .second, .val (.ref b1), .val (.long (i2 &&& (9223372036854775807 : Int64))), .second, .val (.int (own_eqL (i1.toInt64) i1.toInt64)), .val (.int (own_eqL i2 i1.toInt64)), .unset, .unset, .unset, .unset] [(.long ((i1.toInt64) + (4294967296 : Int64))), (.ref b1)])) (fun _ k => XS.ladd X6.here hx rfl (hb hby at_46) rfl k) ?_
  have Zq7 : n0 ≤ T4.heap.size := (Nat.le_trans (Nat.le_trans (Nat.le_trans (Nat.le_trans Z0 E1.1) E2.1) K3.1) K4.1)
  obtain ⟨cq7, kq7, q7a, q7b, q7c⟩ := isOf hZ e6 P4_0
  obtain ⟨_, _, ⟨T7, L7, k7, n7⟩, -, X7, ⟨Lc7, hQ7, l7, y7, z7⟩, st7⟩ := X6.virtualBack hx (y := (⟨"wayfarer/process/RepeatStep", "endsAfter", "(J)Z"⟩ : MethodName)) (z := (⟨"wayfarer/process/RepeatStep", "endsAfter", "(J)Z"⟩ : MethodName)) hown (mvT hZ (hw _ (List.mem_of_getElem? (i := 47) rfl))) (mvT hZ (hw _ (List.mem_of_getElem? (i := 48) rfl))) (notFace_of_selects (args := #[]) (mvT hZ (hw _ (List.mem_of_getElem? (i := 50) rfl)))) (mvT hZ (hw _ (List.mem_of_getElem? (i := 50) rfl))) (mvT hZ (hw _ (List.mem_of_getElem? (i := 49) rfl))) (by decide) (backOf (W := 0) (rm7 l Z a0 hw [] b1 ((i1.toInt64) + (4294967296 : Int64)) i1 T4.heap n0 Zq7 P4_2) hZ (hw _ (List.mem_of_getElem? (i := 51) rfl)) (hw _ (List.mem_of_getElem? (i := 2) rfl)) (by decide) (by decide)) q7a q7c (g := (mkF m 47 #[.val (.int i1), .val (.long i2), .second, .val (.ref b1), .val (.long (i2 &&& (9223372036854775807 : Int64))), .second, .val (.int (own_eqL (i1.toInt64) i1.toInt64)), .val (.int (own_eqL i2 i1.toInt64)), .unset, .unset, .unset, .unset] [(.long ((i1.toInt64) + (4294967296 : Int64))), (.ref b1)])) rfl (by rw [hml]; rfl) (Steps.refl _) (argsL := [(.long ((i1.toInt64) + (4294967296 : Int64)))]) (rest := []) (lenOf pd_2 rfl) rfl (by show 2 * 0 + _ ≤ _; exact Nat.le_of_eq rfl) (hb hby at_47) (fun _ _ => ⟨rfl, e6, (by decide : 2 + 0 ≤ _), (by decide : 7 + 0 ≤ _)⟩)
  dsimp only [Pt.U, Pt.locs, Pt.cells, Pt.slots] at X7 l7 y7 z7 st7 hQ7
  subst l7 y7 z7
  obtain ⟨rfl, rfl, e7⟩ := hQ7
  try rw [List.append_nil] at X7
  refine own_jump (f' := (mkF m 50 #[.val (.int i1), .val (.long i2), .second, .val (.ref b1), .val (.long (i2 &&& (9223372036854775807 : Int64))), .second, .val (.int (own_eqL (i1.toInt64) i1.toInt64)), .val (.int (own_eqL i2 i1.toInt64)), .unset, .unset, .unset, .unset] [(.int (own_eqL ((i1.toInt64) + (4294967296 : Int64)) i1.toInt64))])) st7 ?_
  refine own_step (f' := (mkF m 52 #[.val (.int i1), .val (.long i2), .second, .val (.ref b1), .val (.long (i2 &&& (9223372036854775807 : Int64))), .second, .val (.int (own_eqL (i1.toInt64) i1.toInt64)), .val (.int (own_eqL i2 i1.toInt64)), .val (.int (own_eqL ((i1.toInt64) + (4294967296 : Int64)) i1.toInt64)), .unset, .unset, .unset] [])) (fun _ k => XS.istore X7.here hx rfl (hb hby at_50) rfl (l' := #[.val (.int i1), .val (.long i2), .second, .val (.ref b1), .val (.long (i2 &&& (9223372036854775807 : Int64))), .second, .val (.int (own_eqL (i1.toInt64) i1.toInt64)), .val (.int (own_eqL i2 i1.toInt64)), .val (.int (own_eqL ((i1.toInt64) + (4294967296 : Int64)) i1.toInt64)), .unset, .unset, .unset]) rfl k) ?_
  refine own_step (f' := (mkF m 53 #[.val (.int i1), .val (.long i2), .second, .val (.ref b1), .val (.long (i2 &&& (9223372036854775807 : Int64))), .second, .val (.int (own_eqL (i1.toInt64) i1.toInt64)), .val (.int (own_eqL i2 i1.toInt64)), .val (.int (own_eqL ((i1.toInt64) + (4294967296 : Int64)) i1.toInt64)), .unset, .unset, .unset] [(.ref b1)])) (fun _ k => XS.aloadN X7.here hx rfl (hb hby at_52) rfl rfl k) ?_
  refine own_step (f' := (mkF m 54 #[.val (.int i1), .val (.long i2), .second, .val (.ref b1), .val (.long (i2 &&& (9223372036854775807 : Int64))), .second, .val (.int (own_eqL (i1.toInt64) i1.toInt64)), .val (.int (own_eqL i2 i1.toInt64)), .val (.int (own_eqL ((i1.toInt64) + (4294967296 : Int64)) i1.toInt64)), .unset, .unset, .unset] [(.int i1), (.ref b1)])) (fun _ k => XS.iloadN X7.here hx rfl (hb hby at_53) rfl k) ?_
  refine own_step (f' := (mkF m 55 #[.val (.int i1), .val (.long i2), .second, .val (.ref b1), .val (.long (i2 &&& (9223372036854775807 : Int64))), .second, .val (.int (own_eqL (i1.toInt64) i1.toInt64)), .val (.int (own_eqL i2 i1.toInt64)), .val (.int (own_eqL ((i1.toInt64) + (4294967296 : Int64)) i1.toInt64)), .unset, .unset, .unset] [(.long (i1.toInt64)), (.ref b1)])) (fun _ k => XS.i2l X7.here hx rfl (hb hby at_54) rfl k) ?_
  refine own_step (f' := (mkF m 58 #[.val (.int i1), .val (.long i2), .second, .val (.ref b1), .val (.long (i2 &&& (9223372036854775807 : Int64))), .second, .val (.int (own_eqL (i1.toInt64) i1.toInt64)), .val (.int (own_eqL i2 i1.toInt64)), .val (.int (own_eqL ((i1.toInt64) + (4294967296 : Int64)) i1.toInt64)), .unset, .unset, .unset] [(.long (4294967296 : Int64)), (.long (i1.toInt64)), (.ref b1)])) (fun _ k => X7.ldc2Long hx hown (mvT hZ (hw _ (List.mem_of_getElem? (i := 52) rfl))) (g := (mkF m 55 #[.val (.int i1), .val (.long i2), .second, .val (.ref b1), .val (.long (i2 &&& (9223372036854775807 : Int64))), .second, .val (.int (own_eqL (i1.toInt64) i1.toInt64)), .val (.int (own_eqL i2 i1.toInt64)), .val (.int (own_eqL ((i1.toInt64) + (4294967296 : Int64)) i1.toInt64)), .unset, .unset, .unset] [(.long (i1.toInt64)), (.ref b1)])) rfl (hb hby at_55) _ k) ?_
  refine own_step (f' := (mkF m 59 #[.val (.int i1), .val (.long i2), .second, .val (.ref b1), .val (.long (i2 &&& (9223372036854775807 : Int64))), .second, .val (.int (own_eqL (i1.toInt64) i1.toInt64)), .val (.int (own_eqL i2 i1.toInt64)), .val (.int (own_eqL ((i1.toInt64) + (4294967296 : Int64)) i1.toInt64)), .unset, .unset, .unset] [(.long ((i1.toInt64) - (4294967296 : Int64))), (.ref b1)])) (fun _ k => XS.lsub X7.here hx rfl (hb hby at_58) rfl k) ?_
  have Zq8 : n0 ≤ T4.heap.size := (Nat.le_trans (Nat.le_trans (Nat.le_trans (Nat.le_trans Z0 E1.1) E2.1) K3.1) K4.1)
  obtain ⟨cq8, kq8, q8a, q8b, q8c⟩ := isOf hZ e7 P4_0
  obtain ⟨_, _, ⟨T8, L8, k8, n8⟩, -, X8, ⟨Lc8, hQ8, l8, y8, z8⟩, st8⟩ := X7.virtualBack hx (y := (⟨"wayfarer/process/RepeatStep", "endsAfter", "(J)Z"⟩ : MethodName)) (z := (⟨"wayfarer/process/RepeatStep", "endsAfter", "(J)Z"⟩ : MethodName)) hown (mvT hZ (hw _ (List.mem_of_getElem? (i := 47) rfl))) (mvT hZ (hw _ (List.mem_of_getElem? (i := 48) rfl))) (notFace_of_selects (args := #[]) (mvT hZ (hw _ (List.mem_of_getElem? (i := 50) rfl)))) (mvT hZ (hw _ (List.mem_of_getElem? (i := 50) rfl))) (mvT hZ (hw _ (List.mem_of_getElem? (i := 49) rfl))) (by decide) (backOf (W := 0) (rm7 l Z a0 hw [] b1 ((i1.toInt64) - (4294967296 : Int64)) i1 T4.heap n0 Zq8 P4_2) hZ (hw _ (List.mem_of_getElem? (i := 51) rfl)) (hw _ (List.mem_of_getElem? (i := 2) rfl)) (by decide) (by decide)) q8a q8c (g := (mkF m 59 #[.val (.int i1), .val (.long i2), .second, .val (.ref b1), .val (.long (i2 &&& (9223372036854775807 : Int64))), .second, .val (.int (own_eqL (i1.toInt64) i1.toInt64)), .val (.int (own_eqL i2 i1.toInt64)), .val (.int (own_eqL ((i1.toInt64) + (4294967296 : Int64)) i1.toInt64)), .unset, .unset, .unset] [(.long ((i1.toInt64) - (4294967296 : Int64))), (.ref b1)])) rfl (by rw [hml]; rfl) (Steps.refl _) (argsL := [(.long ((i1.toInt64) - (4294967296 : Int64)))]) (rest := []) (lenOf pd_2 rfl) rfl (by show 2 * 0 + _ ≤ _; exact Nat.le_of_eq rfl) (hb hby at_59) (fun _ _ => ⟨rfl, e7, (by decide : 2 + 0 ≤ _), (by decide : 7 + 0 ≤ _)⟩)
  dsimp only [Pt.U, Pt.locs, Pt.cells, Pt.slots] at X8 l8 y8 z8 st8 hQ8
  subst l8 y8 z8
  obtain ⟨rfl, rfl, e8⟩ := hQ8
  try rw [List.append_nil] at X8
  refine own_jump (f' := (mkF m 62 #[.val (.int i1), .val (.long i2), .second, .val (.ref b1), .val (.long (i2 &&& (9223372036854775807 : Int64))), .second, .val (.int (own_eqL (i1.toInt64) i1.toInt64)), .val (.int (own_eqL i2 i1.toInt64)), .val (.int (own_eqL ((i1.toInt64) + (4294967296 : Int64)) i1.toInt64)), .unset, .unset, .unset] [(.int (own_eqL ((i1.toInt64) - (4294967296 : Int64)) i1.toInt64))])) st8 ?_
  refine own_step (f' := (mkF m 64 #[.val (.int i1), .val (.long i2), .second, .val (.ref b1), .val (.long (i2 &&& (9223372036854775807 : Int64))), .second, .val (.int (own_eqL (i1.toInt64) i1.toInt64)), .val (.int (own_eqL i2 i1.toInt64)), .val (.int (own_eqL ((i1.toInt64) + (4294967296 : Int64)) i1.toInt64)), .val (.int (own_eqL ((i1.toInt64) - (4294967296 : Int64)) i1.toInt64)), .unset, .unset] [])) (fun _ k => XS.istore X8.here hx rfl (hb hby at_62) rfl (l' := #[.val (.int i1), .val (.long i2), .second, .val (.ref b1), .val (.long (i2 &&& (9223372036854775807 : Int64))), .second, .val (.int (own_eqL (i1.toInt64) i1.toInt64)), .val (.int (own_eqL i2 i1.toInt64)), .val (.int (own_eqL ((i1.toInt64) + (4294967296 : Int64)) i1.toInt64)), .val (.int (own_eqL ((i1.toInt64) - (4294967296 : Int64)) i1.toInt64)), .unset, .unset]) rfl k) ?_
  obtain ⟨T9, X9, e9, st9⟩ := getS2 X8 hx hZ hown (host := "") (Or.inl (hw _ (List.mem_of_getElem? (i := 53) rfl))) Via.refl e8 (own_staKeep (own_staKeep ((S_AHEAD.ext E1).ext E2) K3 (allS (own_exaNS A2) all0)) K4 (allS (own_exaNS ((A1.ext E2).keep K3)) all0)) (g := (mkF m 64 #[.val (.int i1), .val (.long i2), .second, .val (.ref b1), .val (.long (i2 &&& (9223372036854775807 : Int64))), .second, .val (.int (own_eqL (i1.toInt64) i1.toInt64)), .val (.int (own_eqL i2 i1.toInt64)), .val (.int (own_eqL ((i1.toInt64) + (4294967296 : Int64)) i1.toInt64)), .val (.int (own_eqL ((i1.toInt64) - (4294967296 : Int64)) i1.toInt64)), .unset, .unset] [])) rfl (hb hby at_64)
  refine own_step (f' := (mkF m 67 #[.val (.int i1), .val (.long i2), .second, .val (.ref b1), .val (.long (i2 &&& (9223372036854775807 : Int64))), .second, .val (.int (own_eqL (i1.toInt64) i1.toInt64)), .val (.int (own_eqL i2 i1.toInt64)), .val (.int (own_eqL ((i1.toInt64) + (4294967296 : Int64)) i1.toInt64)), .val (.int (own_eqL ((i1.toInt64) - (4294967296 : Int64)) i1.toInt64)), .unset, .unset] [(.ref w2)])) st9 ?_
  refine own_step (f' := (mkF m 69 #[.val (.int i1), .val (.long i2), .second, .val (.ref b1), .val (.long (i2 &&& (9223372036854775807 : Int64))), .second, .val (.int (own_eqL (i1.toInt64) i1.toInt64)), .val (.int (own_eqL i2 i1.toInt64)), .val (.int (own_eqL ((i1.toInt64) + (4294967296 : Int64)) i1.toInt64)), .val (.int (own_eqL ((i1.toInt64) - (4294967296 : Int64)) i1.toInt64)), .unset, .unset] [(.long (i2 &&& (9223372036854775807 : Int64))), (.ref w2)])) (fun _ k => XS.lload X9.here hx rfl (hb hby at_67) rfl k) ?_
  have Zq10 : n0 ≤ T4.heap.size := (Nat.le_trans (Nat.le_trans (Nat.le_trans (Nat.le_trans Z0 E1.1) E2.1) K3.1) K4.1)
  obtain ⟨cq10, kq10, q10a, q10b, q10c⟩ := isOf hZ e9 ((((E_w2.ext E1).ext E2).keep K3).keep K4)
  obtain ⟨_, _, ⟨T10, L10, k10, n10⟩, -, X10, ⟨Lc10, hQ10, l10, y10, z10⟩, st10⟩ := X9.virtualBack hx (y := (⟨"wayfarer/process/RepeatStep", "endsAfter", "(J)Z"⟩ : MethodName)) (z := (⟨"wayfarer/process/RepeatStep", "endsAfter", "(J)Z"⟩ : MethodName)) hown (mvT hZ (hw _ (List.mem_of_getElem? (i := 47) rfl))) (mvT hZ (hw _ (List.mem_of_getElem? (i := 48) rfl))) (notFace_of_selects (args := #[]) (mvT hZ (hw _ (List.mem_of_getElem? (i := 50) rfl)))) (mvT hZ (hw _ (List.mem_of_getElem? (i := 50) rfl))) (mvT hZ (hw _ (List.mem_of_getElem? (i := 49) rfl))) (by decide) (backOf (W := 0) (rm7 l Z a0 hw [] w2 (i2 &&& (9223372036854775807 : Int64)) (-1 : Int32) T4.heap n0 Zq10 ((((F_times_w2.ext E1).ext E2).keep K3 (ninS ne_w2_b2 nin0)).keep K4 (ninS ne_w2_b1 nin0))) hZ (hw _ (List.mem_of_getElem? (i := 51) rfl)) (hw _ (List.mem_of_getElem? (i := 2) rfl)) (by decide) (by decide)) q10a q10c (g := (mkF m 69 #[.val (.int i1), .val (.long i2), .second, .val (.ref b1), .val (.long (i2 &&& (9223372036854775807 : Int64))), .second, .val (.int (own_eqL (i1.toInt64) i1.toInt64)), .val (.int (own_eqL i2 i1.toInt64)), .val (.int (own_eqL ((i1.toInt64) + (4294967296 : Int64)) i1.toInt64)), .val (.int (own_eqL ((i1.toInt64) - (4294967296 : Int64)) i1.toInt64)), .unset, .unset] [(.long (i2 &&& (9223372036854775807 : Int64))), (.ref w2)])) rfl (by rw [hml]; rfl) (Steps.refl _) (argsL := [(.long (i2 &&& (9223372036854775807 : Int64)))]) (rest := []) (lenOf pd_2 rfl) rfl (by show 2 * 0 + _ ≤ _; exact Nat.le_of_eq rfl) (hb hby at_69) (fun _ _ => ⟨rfl, e9, (by decide : 2 + 0 ≤ _), (by decide : 7 + 0 ≤ _)⟩)
  dsimp only [Pt.U, Pt.locs, Pt.cells, Pt.slots] at X10 l10 y10 z10 st10 hQ10
  subst l10 y10 z10
  obtain ⟨rfl, rfl, e10⟩ := hQ10
  try rw [List.append_nil] at X10
  refine own_jump (f' := (mkF m 72 #[.val (.int i1), .val (.long i2), .second, .val (.ref b1), .val (.long (i2 &&& (9223372036854775807 : Int64))), .second, .val (.int (own_eqL (i1.toInt64) i1.toInt64)), .val (.int (own_eqL i2 i1.toInt64)), .val (.int (own_eqL ((i1.toInt64) + (4294967296 : Int64)) i1.toInt64)), .val (.int (own_eqL ((i1.toInt64) - (4294967296 : Int64)) i1.toInt64)), .unset, .unset] [(.int (own_eqL (i2 &&& (9223372036854775807 : Int64)) (-1 : Int32).toInt64))])) st10 ?_
  refine own_step (f' := (mkF m 74 #[.val (.int i1), .val (.long i2), .second, .val (.ref b1), .val (.long (i2 &&& (9223372036854775807 : Int64))), .second, .val (.int (own_eqL (i1.toInt64) i1.toInt64)), .val (.int (own_eqL i2 i1.toInt64)), .val (.int (own_eqL ((i1.toInt64) + (4294967296 : Int64)) i1.toInt64)), .val (.int (own_eqL ((i1.toInt64) - (4294967296 : Int64)) i1.toInt64)), .val (.int (own_eqL (i2 &&& (9223372036854775807 : Int64)) (-1 : Int32).toInt64)), .unset] [])) (fun _ k => XS.istore X10.here hx rfl (hb hby at_72) rfl (l' := #[.val (.int i1), .val (.long i2), .second, .val (.ref b1), .val (.long (i2 &&& (9223372036854775807 : Int64))), .second, .val (.int (own_eqL (i1.toInt64) i1.toInt64)), .val (.int (own_eqL i2 i1.toInt64)), .val (.int (own_eqL ((i1.toInt64) + (4294967296 : Int64)) i1.toInt64)), .val (.int (own_eqL ((i1.toInt64) - (4294967296 : Int64)) i1.toInt64)), .val (.int (own_eqL (i2 &&& (9223372036854775807 : Int64)) (-1 : Int32).toInt64)), .unset]) rfl k) ?_
  refine own_step (f' := (mkF m 75 #[.val (.int i1), .val (.long i2), .second, .val (.ref b1), .val (.long (i2 &&& (9223372036854775807 : Int64))), .second, .val (.int (own_eqL (i1.toInt64) i1.toInt64)), .val (.int (own_eqL i2 i1.toInt64)), .val (.int (own_eqL ((i1.toInt64) + (4294967296 : Int64)) i1.toInt64)), .val (.int (own_eqL ((i1.toInt64) - (4294967296 : Int64)) i1.toInt64)), .val (.int (own_eqL (i2 &&& (9223372036854775807 : Int64)) (-1 : Int32).toInt64)), .unset] [(.long i2)])) (fun _ k => XS.lloadN X10.here hx rfl (hb hby at_74) rfl k) ?_
  refine own_step (f' := (mkF m 76 #[.val (.int i1), .val (.long i2), .second, .val (.ref b1), .val (.long (i2 &&& (9223372036854775807 : Int64))), .second, .val (.int (own_eqL (i1.toInt64) i1.toInt64)), .val (.int (own_eqL i2 i1.toInt64)), .val (.int (own_eqL ((i1.toInt64) + (4294967296 : Int64)) i1.toInt64)), .val (.int (own_eqL ((i1.toInt64) - (4294967296 : Int64)) i1.toInt64)), .val (.int (own_eqL (i2 &&& (9223372036854775807 : Int64)) (-1 : Int32).toInt64)), .unset] [(.int i1), (.long i2)])) (fun _ k => XS.iloadN X10.here hx rfl (hb hby at_75) rfl k) ?_
  refine own_step (f' := (mkF m 77 #[.val (.int i1), .val (.long i2), .second, .val (.ref b1), .val (.long (i2 &&& (9223372036854775807 : Int64))), .second, .val (.int (own_eqL (i1.toInt64) i1.toInt64)), .val (.int (own_eqL i2 i1.toInt64)), .val (.int (own_eqL ((i1.toInt64) + (4294967296 : Int64)) i1.toInt64)), .val (.int (own_eqL ((i1.toInt64) - (4294967296 : Int64)) i1.toInt64)), .val (.int (own_eqL (i2 &&& (9223372036854775807 : Int64)) (-1 : Int32).toInt64)), .unset] [(.long (i1.toInt64)), (.long i2)])) (fun _ k => XS.i2l X10.here hx rfl (hb hby at_76) rfl k) ?_
  refine own_step (f' := (mkF m 78 #[.val (.int i1), .val (.long i2), .second, .val (.ref b1), .val (.long (i2 &&& (9223372036854775807 : Int64))), .second, .val (.int (own_eqL (i1.toInt64) i1.toInt64)), .val (.int (own_eqL i2 i1.toInt64)), .val (.int (own_eqL ((i1.toInt64) + (4294967296 : Int64)) i1.toInt64)), .val (.int (own_eqL ((i1.toInt64) - (4294967296 : Int64)) i1.toInt64)), .val (.int (own_eqL (i2 &&& (9223372036854775807 : Int64)) (-1 : Int32).toInt64)), .unset] [(.int (lcmpW i2 (i1.toInt64)))])) (fun _ k => XS.lcmp X10.here hx rfl (hb hby at_77) rfl k) ?_
  have J78_12 : ∀ (T78_12 : State) (v78_12_l11 : Int32), Stand p l e room_1 s m #[(.int i1), (.long i2)] below meth c T78_12 Lo4 2 7 → T78_12.heap = T4.heap → v78_12_l11 = (if i2 = (i1.toInt64) then (1 : Int32) else (0 : Int32)) → own_Goes p e below s (Q0 Z i1 i2 w1 w2 h0 n0) room_1.cells room_1.slots T78_12 (mkF m 90 #[.val (.int i1), .val (.long i2), .second, .val (.ref b1), .val (.long (i2 &&& (9223372036854775807 : Int64))), .second, .val (.int (own_eqL (i1.toInt64) i1.toInt64)), .val (.int (own_eqL i2 i1.toInt64)), .val (.int (own_eqL ((i1.toInt64) + (4294967296 : Int64)) i1.toInt64)), .val (.int (own_eqL ((i1.toInt64) - (4294967296 : Int64)) i1.toInt64)), .val (.int (own_eqL (i2 &&& (9223372036854775807 : Int64)) (-1 : Int32).toInt64)), .val (.int v78_12_l11)] []) := by
    intro T78_12 v78_12_l11 X78_12 e78_12 hv78_12_0
    refine own_step (f' := (mkF m 92 #[.val (.int i1), .val (.long i2), .second, .val (.ref b1), .val (.long (i2 &&& (9223372036854775807 : Int64))), .second, .val (.int (own_eqL (i1.toInt64) i1.toInt64)), .val (.int (own_eqL i2 i1.toInt64)), .val (.int (own_eqL ((i1.toInt64) + (4294967296 : Int64)) i1.toInt64)), .val (.int (own_eqL ((i1.toInt64) - (4294967296 : Int64)) i1.toInt64)), .val (.int (own_eqL (i2 &&& (9223372036854775807 : Int64)) (-1 : Int32).toInt64)), .val (.int v78_12_l11)] [(.int (own_eqL (i1.toInt64) i1.toInt64))])) (fun _ k => XS.iload X78_12.here hx rfl (hb hby at_90) rfl k) ?_
    have hf92_13 : ¬ ((own_eqL (i1.toInt64) i1.toInt64) = (0 : Int32)) := own_f1 i1
    refine own_step (f' := (mkF m 95 #[.val (.int i1), .val (.long i2), .second, .val (.ref b1), .val (.long (i2 &&& (9223372036854775807 : Int64))), .second, .val (.int (own_eqL (i1.toInt64) i1.toInt64)), .val (.int (own_eqL i2 i1.toInt64)), .val (.int (own_eqL ((i1.toInt64) + (4294967296 : Int64)) i1.toInt64)), .val (.int (own_eqL ((i1.toInt64) - (4294967296 : Int64)) i1.toInt64)), .val (.int (own_eqL (i2 &&& (9223372036854775807 : Int64)) (-1 : Int32).toInt64)), .val (.int v78_12_l11)] [])) (fun _ k => XS.ifNo X78_12.here hx rfl (hb hby at_92) rfl ((if0 _ _).trans (feq hf92_13).1) k) ?_
    refine own_step (f' := (mkF m 97 #[.val (.int i1), .val (.long i2), .second, .val (.ref b1), .val (.long (i2 &&& (9223372036854775807 : Int64))), .second, .val (.int (own_eqL (i1.toInt64) i1.toInt64)), .val (.int (own_eqL i2 i1.toInt64)), .val (.int (own_eqL ((i1.toInt64) + (4294967296 : Int64)) i1.toInt64)), .val (.int (own_eqL ((i1.toInt64) - (4294967296 : Int64)) i1.toInt64)), .val (.int (own_eqL (i2 &&& (9223372036854775807 : Int64)) (-1 : Int32).toInt64)), .val (.int v78_12_l11)] [(.int (own_eqL i2 i1.toInt64))])) (fun _ k => XS.iload X78_12.here hx rfl (hb hby at_95) rfl k) ?_
    refine own_step (f' := (mkF m 99 #[.val (.int i1), .val (.long i2), .second, .val (.ref b1), .val (.long (i2 &&& (9223372036854775807 : Int64))), .second, .val (.int (own_eqL (i1.toInt64) i1.toInt64)), .val (.int (own_eqL i2 i1.toInt64)), .val (.int (own_eqL ((i1.toInt64) + (4294967296 : Int64)) i1.toInt64)), .val (.int (own_eqL ((i1.toInt64) - (4294967296 : Int64)) i1.toInt64)), .val (.int (own_eqL (i2 &&& (9223372036854775807 : Int64)) (-1 : Int32).toInt64)), .val (.int v78_12_l11)] [(.int v78_12_l11), (.int (own_eqL i2 i1.toInt64))])) (fun _ k => XS.iload X78_12.here hx rfl (hb hby at_97) rfl k) ?_
    have hf99_14 : (own_eqL i2 i1.toInt64) = v78_12_l11 := hv78_12_0.symm
    refine own_step (f' := (mkF m 102 #[.val (.int i1), .val (.long i2), .second, .val (.ref b1), .val (.long (i2 &&& (9223372036854775807 : Int64))), .second, .val (.int (own_eqL (i1.toInt64) i1.toInt64)), .val (.int (own_eqL i2 i1.toInt64)), .val (.int (own_eqL ((i1.toInt64) + (4294967296 : Int64)) i1.toInt64)), .val (.int (own_eqL ((i1.toInt64) - (4294967296 : Int64)) i1.toInt64)), .val (.int (own_eqL (i2 &&& (9223372036854775807 : Int64)) (-1 : Int32).toInt64)), .val (.int v78_12_l11)] [])) (fun _ k => XS.icmpNo X78_12.here hx rfl (hb hby at_99) rfl (teq hf99_14).2 k) ?_
    refine own_step (f' := (mkF m 104 #[.val (.int i1), .val (.long i2), .second, .val (.ref b1), .val (.long (i2 &&& (9223372036854775807 : Int64))), .second, .val (.int (own_eqL (i1.toInt64) i1.toInt64)), .val (.int (own_eqL i2 i1.toInt64)), .val (.int (own_eqL ((i1.toInt64) + (4294967296 : Int64)) i1.toInt64)), .val (.int (own_eqL ((i1.toInt64) - (4294967296 : Int64)) i1.toInt64)), .val (.int (own_eqL (i2 &&& (9223372036854775807 : Int64)) (-1 : Int32).toInt64)), .val (.int v78_12_l11)] [(.int (own_eqL ((i1.toInt64) + (4294967296 : Int64)) i1.toInt64))])) (fun _ k => XS.iload X78_12.here hx rfl (hb hby at_102) rfl k) ?_
    have hf104_15 : (own_eqL ((i1.toInt64) + (4294967296 : Int64)) i1.toInt64) = (0 : Int32) := own_up i1
    refine own_step (f' := (mkF m 107 #[.val (.int i1), .val (.long i2), .second, .val (.ref b1), .val (.long (i2 &&& (9223372036854775807 : Int64))), .second, .val (.int (own_eqL (i1.toInt64) i1.toInt64)), .val (.int (own_eqL i2 i1.toInt64)), .val (.int (own_eqL ((i1.toInt64) + (4294967296 : Int64)) i1.toInt64)), .val (.int (own_eqL ((i1.toInt64) - (4294967296 : Int64)) i1.toInt64)), .val (.int (own_eqL (i2 &&& (9223372036854775807 : Int64)) (-1 : Int32).toInt64)), .val (.int v78_12_l11)] [])) (fun _ k => XS.ifNo X78_12.here hx rfl (hb hby at_104) rfl ((if0 _ _).trans (teq hf104_15).2) k) ?_
    refine own_step (f' := (mkF m 109 #[.val (.int i1), .val (.long i2), .second, .val (.ref b1), .val (.long (i2 &&& (9223372036854775807 : Int64))), .second, .val (.int (own_eqL (i1.toInt64) i1.toInt64)), .val (.int (own_eqL i2 i1.toInt64)), .val (.int (own_eqL ((i1.toInt64) + (4294967296 : Int64)) i1.toInt64)), .val (.int (own_eqL ((i1.toInt64) - (4294967296 : Int64)) i1.toInt64)), .val (.int (own_eqL (i2 &&& (9223372036854775807 : Int64)) (-1 : Int32).toInt64)), .val (.int v78_12_l11)] [(.int (own_eqL ((i1.toInt64) - (4294967296 : Int64)) i1.toInt64))])) (fun _ k => XS.iload X78_12.here hx rfl (hb hby at_107) rfl k) ?_
    have hf109_16 : (own_eqL ((i1.toInt64) - (4294967296 : Int64)) i1.toInt64) = (0 : Int32) := own_dn i1
    refine own_step (f' := (mkF m 112 #[.val (.int i1), .val (.long i2), .second, .val (.ref b1), .val (.long (i2 &&& (9223372036854775807 : Int64))), .second, .val (.int (own_eqL (i1.toInt64) i1.toInt64)), .val (.int (own_eqL i2 i1.toInt64)), .val (.int (own_eqL ((i1.toInt64) + (4294967296 : Int64)) i1.toInt64)), .val (.int (own_eqL ((i1.toInt64) - (4294967296 : Int64)) i1.toInt64)), .val (.int (own_eqL (i2 &&& (9223372036854775807 : Int64)) (-1 : Int32).toInt64)), .val (.int v78_12_l11)] [])) (fun _ k => XS.ifNo X78_12.here hx rfl (hb hby at_109) rfl ((if0 _ _).trans (teq hf109_16).2) k) ?_
    refine own_step (f' := (mkF m 114 #[.val (.int i1), .val (.long i2), .second, .val (.ref b1), .val (.long (i2 &&& (9223372036854775807 : Int64))), .second, .val (.int (own_eqL (i1.toInt64) i1.toInt64)), .val (.int (own_eqL i2 i1.toInt64)), .val (.int (own_eqL ((i1.toInt64) + (4294967296 : Int64)) i1.toInt64)), .val (.int (own_eqL ((i1.toInt64) - (4294967296 : Int64)) i1.toInt64)), .val (.int (own_eqL (i2 &&& (9223372036854775807 : Int64)) (-1 : Int32).toInt64)), .val (.int v78_12_l11)] [(.int (own_eqL (i2 &&& (9223372036854775807 : Int64)) (-1 : Int32).toInt64))])) (fun _ k => XS.iload X78_12.here hx rfl (hb hby at_112) rfl k) ?_
    have hf114_17 : (own_eqL (i2 &&& (9223372036854775807 : Int64)) (-1 : Int32).toInt64) = (0 : Int32) := own_un i2
    refine own_step (f' := (mkF m 117 #[.val (.int i1), .val (.long i2), .second, .val (.ref b1), .val (.long (i2 &&& (9223372036854775807 : Int64))), .second, .val (.int (own_eqL (i1.toInt64) i1.toInt64)), .val (.int (own_eqL i2 i1.toInt64)), .val (.int (own_eqL ((i1.toInt64) + (4294967296 : Int64)) i1.toInt64)), .val (.int (own_eqL ((i1.toInt64) - (4294967296 : Int64)) i1.toInt64)), .val (.int (own_eqL (i2 &&& (9223372036854775807 : Int64)) (-1 : Int32).toInt64)), .val (.int v78_12_l11)] [])) (fun _ k => XS.ifNo X78_12.here hx rfl (hb hby at_114) rfl ((if0 _ _).trans (teq hf114_17).2) k) ?_
    refine own_step (f' := (mkF m 118 #[.val (.int i1), .val (.long i2), .second, .val (.ref b1), .val (.long (i2 &&& (9223372036854775807 : Int64))), .second, .val (.int (own_eqL (i1.toInt64) i1.toInt64)), .val (.int (own_eqL i2 i1.toInt64)), .val (.int (own_eqL ((i1.toInt64) + (4294967296 : Int64)) i1.toInt64)), .val (.int (own_eqL ((i1.toInt64) - (4294967296 : Int64)) i1.toInt64)), .val (.int (own_eqL (i2 &&& (9223372036854775807 : Int64)) (-1 : Int32).toInt64)), .val (.int v78_12_l11)] [(.int (1 : Int32))])) (fun _ k => XS.iconst X78_12.here hx rfl (hb hby at_117) k) ?_
    refine own_step (f' := (mkF m 122 #[.val (.int i1), .val (.long i2), .second, .val (.ref b1), .val (.long (i2 &&& (9223372036854775807 : Int64))), .second, .val (.int (own_eqL (i1.toInt64) i1.toInt64)), .val (.int (own_eqL i2 i1.toInt64)), .val (.int (own_eqL ((i1.toInt64) + (4294967296 : Int64)) i1.toInt64)), .val (.int (own_eqL ((i1.toInt64) - (4294967296 : Int64)) i1.toInt64)), .val (.int (own_eqL (i2 &&& (9223372036854775807 : Int64)) (-1 : Int32).toInt64)), .val (.int v78_12_l11)] [(.int (1 : Int32))])) (fun _ k => XS.goto X78_12.here hx rfl (pc0 := 118) (pc' := 122) rfl (hb hby at_118) (by decide) (by decide) k) ?_
    refine own_out (v := some (.int (1 : Int32))) X78_12 hlk (fun h => by rw [Bd.returns] at h; cases h) (fun fs hr => retN X78_12 hx (t := .boolean) Bd.returns (by simp) (hb hby at_122) hr) (by decide) (by decide) ?_
    exact ⟨rfl, N4⟩
  by_cases hc78_11 : i2 = (i1.toInt64)
  · refine own_step (f' := (mkF m 81 #[.val (.int i1), .val (.long i2), .second, .val (.ref b1), .val (.long (i2 &&& (9223372036854775807 : Int64))), .second, .val (.int (own_eqL (i1.toInt64) i1.toInt64)), .val (.int (own_eqL i2 i1.toInt64)), .val (.int (own_eqL ((i1.toInt64) + (4294967296 : Int64)) i1.toInt64)), .val (.int (own_eqL ((i1.toInt64) - (4294967296 : Int64)) i1.toInt64)), .val (.int (own_eqL (i2 &&& (9223372036854775807 : Int64)) (-1 : Int32).toInt64)), .unset] [])) (fun _ k => XS.ifNo X10.here hx rfl (hb hby at_78) rfl ((if0 _ _).trans (teq ((lw_eq _ _).mpr hc78_11)).2) k) ?_
    refine own_step (f' := (mkF m 82 #[.val (.int i1), .val (.long i2), .second, .val (.ref b1), .val (.long (i2 &&& (9223372036854775807 : Int64))), .second, .val (.int (own_eqL (i1.toInt64) i1.toInt64)), .val (.int (own_eqL i2 i1.toInt64)), .val (.int (own_eqL ((i1.toInt64) + (4294967296 : Int64)) i1.toInt64)), .val (.int (own_eqL ((i1.toInt64) - (4294967296 : Int64)) i1.toInt64)), .val (.int (own_eqL (i2 &&& (9223372036854775807 : Int64)) (-1 : Int32).toInt64)), .unset] [(.int (1 : Int32))])) (fun _ k => XS.iconst X10.here hx rfl (hb hby at_81) k) ?_
    refine own_step (f' := (mkF m 84 #[.val (.int i1), .val (.long i2), .second, .val (.ref b1), .val (.long (i2 &&& (9223372036854775807 : Int64))), .second, .val (.int (own_eqL (i1.toInt64) i1.toInt64)), .val (.int (own_eqL i2 i1.toInt64)), .val (.int (own_eqL ((i1.toInt64) + (4294967296 : Int64)) i1.toInt64)), .val (.int (own_eqL ((i1.toInt64) - (4294967296 : Int64)) i1.toInt64)), .val (.int (own_eqL (i2 &&& (9223372036854775807 : Int64)) (-1 : Int32).toInt64)), .val (.int (1 : Int32))] [])) (fun _ k => XS.istore X10.here hx rfl (hb hby at_82) rfl (l' := #[.val (.int i1), .val (.long i2), .second, .val (.ref b1), .val (.long (i2 &&& (9223372036854775807 : Int64))), .second, .val (.int (own_eqL (i1.toInt64) i1.toInt64)), .val (.int (own_eqL i2 i1.toInt64)), .val (.int (own_eqL ((i1.toInt64) + (4294967296 : Int64)) i1.toInt64)), .val (.int (own_eqL ((i1.toInt64) - (4294967296 : Int64)) i1.toInt64)), .val (.int (own_eqL (i2 &&& (9223372036854775807 : Int64)) (-1 : Int32).toInt64)), .val (.int (1 : Int32))]) rfl k) ?_
    refine own_step (f' := (mkF m 90 #[.val (.int i1), .val (.long i2), .second, .val (.ref b1), .val (.long (i2 &&& (9223372036854775807 : Int64))), .second, .val (.int (own_eqL (i1.toInt64) i1.toInt64)), .val (.int (own_eqL i2 i1.toInt64)), .val (.int (own_eqL ((i1.toInt64) + (4294967296 : Int64)) i1.toInt64)), .val (.int (own_eqL ((i1.toInt64) - (4294967296 : Int64)) i1.toInt64)), .val (.int (own_eqL (i2 &&& (9223372036854775807 : Int64)) (-1 : Int32).toInt64)), .val (.int (1 : Int32))] [])) (fun _ k => XS.goto X10.here hx rfl (pc0 := 84) (pc' := 90) rfl (hb hby at_84) (by decide) (by decide) k) ?_
    exact J78_12 _ (1 : Int32) X10 e10 (by rw [if_pos hc78_11])
  · refine own_step (f' := (mkF m 87 #[.val (.int i1), .val (.long i2), .second, .val (.ref b1), .val (.long (i2 &&& (9223372036854775807 : Int64))), .second, .val (.int (own_eqL (i1.toInt64) i1.toInt64)), .val (.int (own_eqL i2 i1.toInt64)), .val (.int (own_eqL ((i1.toInt64) + (4294967296 : Int64)) i1.toInt64)), .val (.int (own_eqL ((i1.toInt64) - (4294967296 : Int64)) i1.toInt64)), .val (.int (own_eqL (i2 &&& (9223372036854775807 : Int64)) (-1 : Int32).toInt64)), .unset] [])) (fun _ k => XS.ifYes X10.here hx rfl (pc0 := 78) (pc' := 87) rfl (hb hby at_78) rfl ((if0 _ _).trans (feq (fun q => hc78_11 ((lw_eq _ _).mp q))).2) (by decide) (by decide) k) ?_
    refine own_step (f' := (mkF m 88 #[.val (.int i1), .val (.long i2), .second, .val (.ref b1), .val (.long (i2 &&& (9223372036854775807 : Int64))), .second, .val (.int (own_eqL (i1.toInt64) i1.toInt64)), .val (.int (own_eqL i2 i1.toInt64)), .val (.int (own_eqL ((i1.toInt64) + (4294967296 : Int64)) i1.toInt64)), .val (.int (own_eqL ((i1.toInt64) - (4294967296 : Int64)) i1.toInt64)), .val (.int (own_eqL (i2 &&& (9223372036854775807 : Int64)) (-1 : Int32).toInt64)), .unset] [(.int (0 : Int32))])) (fun _ k => XS.iconst X10.here hx rfl (hb hby at_87) k) ?_
    refine own_step (f' := (mkF m 90 #[.val (.int i1), .val (.long i2), .second, .val (.ref b1), .val (.long (i2 &&& (9223372036854775807 : Int64))), .second, .val (.int (own_eqL (i1.toInt64) i1.toInt64)), .val (.int (own_eqL i2 i1.toInt64)), .val (.int (own_eqL ((i1.toInt64) + (4294967296 : Int64)) i1.toInt64)), .val (.int (own_eqL ((i1.toInt64) - (4294967296 : Int64)) i1.toInt64)), .val (.int (own_eqL (i2 &&& (9223372036854775807 : Int64)) (-1 : Int32).toInt64)), .val (.int (0 : Int32))] [])) (fun _ k => XS.istore X10.here hx rfl (hb hby at_88) rfl (l' := #[.val (.int i1), .val (.long i2), .second, .val (.ref b1), .val (.long (i2 &&& (9223372036854775807 : Int64))), .second, .val (.int (own_eqL (i1.toInt64) i1.toInt64)), .val (.int (own_eqL i2 i1.toInt64)), .val (.int (own_eqL ((i1.toInt64) + (4294967296 : Int64)) i1.toInt64)), .val (.int (own_eqL ((i1.toInt64) - (4294967296 : Int64)) i1.toInt64)), .val (.int (own_eqL (i2 &&& (9223372036854775807 : Int64)) (-1 : Int32).toInt64)), .val (.int (0 : Int32))]) rfl k) ?_
    exact J78_12 _ (0 : Int32) X10 e10 (by rw [if_neg hc78_11])
theorem own_eqInt {t : Term} {n : Int32} {args : Array Value} {s : State} (h : (Jvm.Cond.eq t (.int n)).value args s none s [] = some true) : t.eval args s none [] s = some (.int n) := by
  simp only [Cond.value] at h
  have hn : (Term.int n).eval args s none [] s = some (.int n) := rfl
  rw [hn] at h
  cases hv : t.eval args s none [] s with
  | none => simp [hv] at h
  | some v =>
    cases v with
    | int x => simp [hv] at h; rw [h]
    | _ => simp [hv] at h
set_option maxRecDepth 65536 in
set_option maxHeartbeats 40000000 in
theorem comes_1 {Post : Tables → Env → Array Value → State → Outcome → State → Prop} (hpost : ∀ tb e args s v u, (limb_1_1.after args s (.returned v) u = true ∧ limb_1_2.after args s (.returned v) u = true ∧ True) → FrameEnd s (.returned v) u (Jvm.fieldLocs frame_1_writes args s ++ Jvm.arrayLocs frame_1_arrays args s ++ Jvm.staticLocs frame_1_statics s) 16 128 → Post tb e args s (.returned v) u) :
    ArmFor flags0 classFile x code maxLocals ret World_1 tables_1 room_1 Calls_1 rest_1 Pre_1 Post := by
  intro l hfl _ _ p e ha hc hk s m args below hf hA hF happ hP
  obtain ⟨hcalls, hrest, hpre⟩ := hP
  obtain ⟨-, -, -, hnamed, -, -, -, hat⟩ := (Spec.applies_iff hf).mp happ
  obtain ⟨hg, hn⟩ := and_e (Cond.before_iff.mp (show (Jvm.Cond.and given_1 narrow_1).before args s = true from hpre))
  obtain ⟨gq1, gq2⟩ := and_e hg
  obtain ⟨gq3, gq4⟩ := and_e gq2
  obtain ⟨w0, w1, rfl⟩ : ∃ w0 w1 : Value, args = #[w0, w1] := by
    have hs : args.size = 2 := by simpa [Cond.value, given_1] using gq1
    obtain ⟨L⟩ := args
    match L, hs with
    | [w0, w1], _ => exact ⟨w0, w1, rfl⟩
  have hw := fun d (hd : d ∈ tables_1) => atoms_spec (ws := Jvm.Cond.code x code maxLocals ret :: tables_1) hat d (List.mem_cons_of_mem _ hd)
  have hfit : Fit s := fun {y c} hc i hi => by
    obtain ⟨ha, rfl⟩ := Array.getElem?_eq_some_iff.mp hc
    have q := List.all_eq_true.mp ((Array.all_eq_true_iff_forall_mem.mp hF) _ (Array.getElem_mem ha)) i (List.mem_range.mpr hi)
    simpa [Array.getElem?_eq_getElem hi] using q
  obtain ⟨hsets, hown0⟩ := atoms_of _ (rest_1_c_eq ▸ (show rest_1_c.before _ s = true from hrest))
  have hr0 := Cond.before_iff.mp hown0
  obtain ⟨i0, ei0⟩ := is_v gq3
  obtain rfl : w0 = (.int i0) := Option.some.inj ei0
  obtain ⟨i1, ei1⟩ := isL_v gq4
  obtain rfl : w1 = (.long i1) := Option.some.inj ei1
  obtain ⟨n1, n2⟩ := and_e hn
  obtain ⟨w2, hw2⟩ := exa_v n1
  have S2 : Sta s s.heap "wayfarer/process/RepeatStep" "AHEAD" "Lwayfarer/process/RepeatStep;" (.ref w2) := Sta.start hw2 (Or.inr ⟨hw _ (List.mem_of_getElem? (i := 2) rfl), hw _ (List.mem_of_getElem? (i := 54) rfl)⟩)
  have E2 : Exa s s.heap w2 "wayfarer/process/RepeatStep" := Exa.start hw2 n1
  have F2 : Fld s s.heap w2 "wayfarer/process/RepeatStep" "times" "I" (.int (-1 : Int32)) := Fld.start ((fld_at hw2).symm.trans (own_eqInt n2))
  obtain ⟨w1, hw1⟩ := arr_v (Cond.before_iff.mp (hsets _ (List.mem_of_getElem? (i := 6) rfl)))
  have S1 : Sta s s.heap "java/util/ArrayList" "DEFAULTCAPACITY_EMPTY_ELEMENTDATA" "[Ljava/lang/Object;" (.ref w1) := Sta.start hw1 (Or.inr ⟨hw _ (List.mem_of_getElem? (i := 5) rfl), hsets _ (List.mem_of_getElem? (i := 2) rfl)⟩)
  obtain ⟨n, o, h1, h2, h3, _, L, rfl, ⟨rfl, N⟩, hq⟩ := rm0 l s _ hw tables_1 i0 i1 w1 w2 s.heap s.heap.size (Nat.le_refl _) S1 S2 E2 F2 p e ha hc hk s m _ below hf ((Spec.applies_iff_loose hf).mp happ).1 ⟨rfl, State.Warmed39.refl s, rfl⟩ trivial
  refine ⟨n, _, h1, h2, h3, hpost _ _ _ _ _ _ ⟨Cond.after_iff.mpr rfl, Cond.after_iff.mpr (eq_i res_at (Term.int_eval (1)) rfl), trivial⟩ ⟨hq.1, hq.2.1, (hq.2.2.sift fun y hy => Or.inr (N y hy)).mono (by decide) (by decide)⟩⟩
theorem main_1_1 : Claimed_1_1 := comes_1 fun _ _ _ _ _ _ h hF => ⟨h.1, hF⟩
theorem main_1_2 : Claimed_1_2 := comes_1 fun _ _ _ _ _ _ h hF => ⟨h.2.1, hF⟩
end Jvm.Pilot.@@N@@
namespace Jvm.Pilot.@@N@@
open Jvm Jvm.ClassFile Sem Op Lib Jvm.Free Jvm.Stand Jvm.Pilot.@@N@@.Jvm.D
/-! MADE BY PROGRAM (witnessworld.py) out of the Statement's table words and the real class files: 20 classes; the members and pool entries that the words name. The judged class is class 1, her method 1. -/
namespace start1
open Jvm.ClassFile
def u (s : String) : CpInfo := .utf8 (stringToUtf16 s)
/-- a pool by its gaps: so many unusable entries, then the entry; so many at the end -/
def gap : Nat → List CpInfo → List CpInfo
  | 0, r => r
  | n + 1, r => .unusable :: gap n r
def poolList (es : List (Nat × CpInfo)) (last : Nat) : List CpInfo := es.foldr (fun e r => gap e.1 (e.2 :: r)) (gap last [])
def pool (es : List (Nat × CpInfo)) (last : Nat) : Array CpInfo := ⟨poolList es last⟩
def fileOf (pool : Array CpInfo) (this : Nat) (attrs : Array Attribute := #[]) (ms : Array MethodInfo := #[]) (fl : Nat := 33) (sup : Nat := 0) (ifs : Array Nat := #[]) (fds : Array FieldInfo := #[]) : ClassFile where
  minorVersion := 0
  majorVersion := 65
  constantPool := pool
  accessFlags := fl
  thisClass := this
  superClass := sup
  interfaces := ifs
  fields := fds
  methods := ms
  attributes := attrs
def plain (name : String) (sup : Option ClassId) : Class where
  name := name
  kind := .ordinary
  loader := none
  accessFlags := 33
  super := sup
  interfaces := #[]
  cf := none
  fields := #[]
  methods := #[]
  instanceTypes := #[]
  staticTypes := #[]
  resolved := #[]
  callSites := []
  init := .initialized
  statics := none
  mirror := none

def pool0 : Array CpInfo := pool [(5, u "<init>"), (0, u "()V"), (1, .class_ 10), (1, u "java/lang/Object")] 113

def k0c0 : Code := { maxStack := 0, maxLocals := 1, code := object_method_1_code, exceptionTable := #[], attributes := #[] }
def k0m0 : Method := { name := "<init>", desc := "()V", sig := { parameters := [], returnType := none }, accessFlags := 1, code := some k0c0 }
/-- java/lang/Object -/
def k0 : Class := { plain "java/lang/Object" none with
  accessFlags := 33
  interfaces := #[]
  cf := some (fileOf pool0 8 #[] #[{ accessFlags := 1, nameIndex := 5, descriptorIndex := 6, attributes := #[] }] 33 0 #[] #[])
  fields := #[]
  methods := #[k0m0]
  instanceTypes := #[]
  staticTypes := #[]
  resolved := Array.replicate 124 none
  statics := none }

def pool1 : Array CpInfo := pool [(2, .class_ 4), (0, .nameAndType 5 6), (0, u "java/lang/Object"), (0, u "<init>"), (0, u "()V"), (0, .class_ 8), (0, u "wayfarer/process/RepeatStep"), (0, .class_ 10), (0, u "java/util/ArrayList"), (0, .methodref 9 3), (0, .methodref 7 13), (0, .nameAndType 5 14), (0, u "(Ljava/util/List;ILwayfarer/process/RepeatStep$Condition;Lwayfarer/process/RepeatStep$Condition;)V"), (2, .long 9223372036854775807), (1, .methodref 7 20), (0, .nameAndType 21 22), (0, u "endsAfter"), (0, u "(J)Z"), (0, .long 4294967296), (1, .fieldref 7 26), (0, .nameAndType 27 28), (0, u "AHEAD"), (0, u "Lwayfarer/process/RepeatStep;"), (0, .class_ 30), (0, u "wayfarer/process/RepeatStepEndsAfterPinLaw"), (2, u "law"), (0, u "(IJ)Z")] 7

def k1m0 : Method := { name := "<init>", desc := "()V", sig := { parameters := [], returnType := none }, accessFlags := 1, code := none }
def k1c1 : Code := { maxStack := 6, maxLocals := 12, code := code, exceptionTable := #[], attributes := #[] }
def k1m1 : Method := { name := "law", desc := "(IJ)Z", sig := { parameters := [.int, .long], returnType := some .boolean }, accessFlags := 9, code := some k1c1 }
/-- wayfarer/process/RepeatStepEndsAfterPinLaw -/
def k1 : Class := { plain "wayfarer/process/RepeatStepEndsAfterPinLaw" (some 0) with
  accessFlags := 49
  interfaces := #[]
  cf := some (fileOf pool1 29 #[] #[{ accessFlags := 1, nameIndex := 5, descriptorIndex := 6, attributes := #[] }, { accessFlags := 9, nameIndex := 33, descriptorIndex := 34, attributes := #[] }] 49 2 #[] #[])
  fields := #[]
  methods := #[k1m0, k1m1]
  instanceTypes := #[]
  staticTypes := #[]
  resolved := Array.replicate 42 none
  statics := none }

def pool2 : Array CpInfo := pool [(1, .methodref 2 3), (0, .class_ 4), (0, .nameAndType 5 6), (0, u "java/lang/Object"), (0, u "<init>"), (0, u "()V"), (0, .class_ 8), (0, u "java/lang/Record")] 13

def k2c0 : Code := { maxStack := 1, maxLocals := 1, code := jdk_30_method_1_code, exceptionTable := #[], attributes := #[] }
def k2m0 : Method := { name := "<init>", desc := "()V", sig := { parameters := [], returnType := none }, accessFlags := 4, code := some k2c0 }
/-- java/lang/Record -/
def k2 : Class := { plain "java/lang/Record" (some 0) with
  accessFlags := 1057
  interfaces := #[]
  cf := some (fileOf pool2 7 #[] #[{ accessFlags := 4, nameIndex := 5, descriptorIndex := 6, attributes := #[] }] 1057 2 #[] #[])
  fields := #[]
  methods := #[k2m0]
  instanceTypes := #[]
  staticTypes := #[]
  resolved := Array.replicate 22 none
  statics := none }

def pool3 : Array CpInfo := pool [(2, .class_ 4), (1, u "wayfarer/process/Step"), (78, .class_ 84), (0, u "java/lang/Object")] 56

/-- wayfarer/process/Step -/
def k3 : Class := { plain "wayfarer/process/Step" (some 0) with
  accessFlags := 1537
  interfaces := #[]
  cf := some (fileOf pool3 2 #[] #[] 1537 83 #[] #[])
  fields := #[]
  methods := #[]
  instanceTypes := #[]
  staticTypes := #[]
  resolved := Array.replicate 141 none
  statics := none }

def pool4 : Array CpInfo := pool [(1, .methodref 2 3), (0, .class_ 4), (0, .nameAndType 5 6), (0, u "java/lang/Record"), (0, u "<init>"), (0, u "()V"), (0, .fieldref 8 9), (0, .class_ 10), (0, .nameAndType 11 12), (0, u "wayfarer/process/RepeatStep"), (0, u "body"), (0, u "Ljava/util/List;"), (0, .fieldref 8 14), (0, .nameAndType 15 16), (0, u "times"), (0, u "I"), (0, .fieldref 8 18), (0, .nameAndType 19 20), (0, u "until"), (0, u "Lwayfarer/process/RepeatStep$Condition;"), (0, .fieldref 8 22), (0, .nameAndType 23 20), (0, u "emit"), (11, .class_ 36), (0, u "wayfarer/process/RepeatStep$Condition"), (42, .class_ 81), (1, u "wayfarer/process/Step"), (23, .class_ 106), (0, u "wayfarer/process/RepeatStep$Outcome"), (14, u "(Ljava/util/List;ILwayfarer/process/RepeatStep$Condition;Lwayfarer/process/RepeatStep$Condition;)V"), (27, u "AHEAD"), (0, u "Lwayfarer/process/RepeatStep;"), (2, u "UNTIMED"), (15, u "endsAfter"), (0, u "(J)Z")] 55

def k4c0 : Code := { maxStack := 2, maxLocals := 5, code := prog_134_method_1_code, exceptionTable := #[], attributes := #[] }
def k4m0 : Method := { name := "<init>", desc := "(Ljava/util/List;ILwayfarer/process/RepeatStep$Condition;Lwayfarer/process/RepeatStep$Condition;)V", sig := { parameters := [(.object "java/util/List"), .int, (.object "wayfarer/process/RepeatStep$Condition"), (.object "wayfarer/process/RepeatStep$Condition")], returnType := none }, accessFlags := 0, code := some k4c0 }
def k4c1 : Code := { maxStack := 4, maxLocals := 3, code := prog_134_method_6_code, exceptionTable := #[], attributes := #[] }
def k4m1 : Method := { name := "endsAfter", desc := "(J)Z", sig := { parameters := [.long], returnType := some .boolean }, accessFlags := 0, code := some k4c1 }
/-- wayfarer/process/RepeatStep -/
def k4 : Class := { plain "wayfarer/process/RepeatStep" (some 2) with
  accessFlags := 48
  interfaces := #[3]
  cf := some (fileOf pool4 8 #[.nestMembers #[105, 35]] #[{ accessFlags := 0, nameIndex := 5, descriptorIndex := 121, attributes := #[] }, { accessFlags := 0, nameIndex := 169, descriptorIndex := 170, attributes := #[] }] 48 2 #[79] #[{ accessFlags := 18, nameIndex := 11, descriptorIndex := 12, attributes := #[] }, { accessFlags := 18, nameIndex := 15, descriptorIndex := 16, attributes := #[] }, { accessFlags := 18, nameIndex := 19, descriptorIndex := 20, attributes := #[] }, { accessFlags := 18, nameIndex := 23, descriptorIndex := 20, attributes := #[] }, { accessFlags := 24, nameIndex := 153, descriptorIndex := 16, attributes := #[] }, { accessFlags := 24, nameIndex := 149, descriptorIndex := 150, attributes := #[] }])
  fields := #[{ name := "body", type := (.object "java/util/List"), accessFlags := 18, slot := 0, constantValue := 0 }, { name := "times", type := .int, accessFlags := 18, slot := 1, constantValue := 0 }, { name := "until", type := (.object "wayfarer/process/RepeatStep$Condition"), accessFlags := 18, slot := 2, constantValue := 0 }, { name := "emit", type := (.object "wayfarer/process/RepeatStep$Condition"), accessFlags := 18, slot := 3, constantValue := 0 }, { name := "UNTIMED", type := .int, accessFlags := 24, slot := 0, constantValue := 0 }, { name := "AHEAD", type := (.object "wayfarer/process/RepeatStep"), accessFlags := 24, slot := 1, constantValue := 0 }]
  methods := #[k4m0, k4m1]
  instanceTypes := #[(.object "java/util/List"), .int, (.object "wayfarer/process/RepeatStep$Condition"), (.object "wayfarer/process/RepeatStep$Condition")]
  staticTypes := #[.int, (.object "wayfarer/process/RepeatStep")]
  resolved := Array.replicate 226 none
  statics := some 0 }

def pool5 : Array CpInfo := pool [(8, .class_ 10), (1, u "java/lang/Iterable"), (24, .class_ 36), (0, u "java/lang/Object")] 25

/-- java/lang/Iterable -/
def k5 : Class := { plain "java/lang/Iterable" (some 0) with
  accessFlags := 1537
  interfaces := #[]
  cf := some (fileOf pool5 8 #[] #[] 1537 35 #[] #[])
  fields := #[]
  methods := #[]
  instanceTypes := #[]
  staticTypes := #[]
  resolved := Array.replicate 62 none
  statics := none }

def pool6 : Array CpInfo := pool [(10, .class_ 12), (1, u "java/util/Collection"), (47, .class_ 61), (0, u "java/lang/Object"), (0, .class_ 63), (0, u "java/lang/Iterable")] 51

/-- java/util/Collection -/
def k6 : Class := { plain "java/util/Collection" (some 0) with
  accessFlags := 1537
  interfaces := #[5]
  cf := some (fileOf pool6 10 #[] #[] 1537 60 #[62] #[])
  fields := #[]
  methods := #[]
  instanceTypes := #[]
  staticTypes := #[]
  resolved := Array.replicate 115 none
  statics := none }

def pool7 : Array CpInfo := pool [(1, .methodref 2 3), (0, .class_ 4), (0, .nameAndType 5 6), (0, u "java/lang/Object"), (0, u "<init>"), (0, u "()V"), (1, .class_ 10), (1, u "java/util/AbstractCollection"), (66, .class_ 78), (0, u "java/util/Collection")] 81

def k7c0 : Code := { maxStack := 1, maxLocals := 1, code := jdk_22_method_1_code, exceptionTable := #[], attributes := #[] }
def k7m0 : Method := { name := "<init>", desc := "()V", sig := { parameters := [], returnType := none }, accessFlags := 4, code := some k7c0 }
/-- java/util/AbstractCollection -/
def k7 : Class := { plain "java/util/AbstractCollection" (some 0) with
  accessFlags := 1057
  interfaces := #[6]
  cf := some (fileOf pool7 8 #[] #[{ accessFlags := 4, nameIndex := 5, descriptorIndex := 6, attributes := #[] }] 1057 2 #[77] #[])
  fields := #[]
  methods := #[k7m0]
  instanceTypes := #[]
  staticTypes := #[]
  resolved := Array.replicate 160 none
  statics := none }

def pool8 : Array CpInfo := pool [(8, .class_ 10), (1, u "java/util/SequencedCollection"), (15, .class_ 27), (0, u "java/lang/Object"), (0, .class_ 29), (0, u "java/util/Collection")] 27

/-- java/util/SequencedCollection -/
def k8 : Class := { plain "java/util/SequencedCollection" (some 0) with
  accessFlags := 1537
  interfaces := #[6]
  cf := some (fileOf pool8 8 #[] #[] 1537 26 #[28] #[])
  fields := #[]
  methods := #[]
  instanceTypes := #[]
  staticTypes := #[]
  resolved := Array.replicate 57 none
  statics := none }

def pool9 : Array CpInfo := pool [(8, .class_ 10), (1, u "java/util/List"), (92, .class_ 104), (0, u "java/lang/Object"), (15, .class_ 121), (0, u "java/util/SequencedCollection")] 129

/-- java/util/List -/
def k9 : Class := { plain "java/util/List" (some 0) with
  accessFlags := 1537
  interfaces := #[8]
  cf := some (fileOf pool9 8 #[] #[] 1537 103 #[120] #[])
  fields := #[]
  methods := #[]
  instanceTypes := #[]
  staticTypes := #[]
  resolved := Array.replicate 251 none
  statics := none }

def pool10 : Array CpInfo := pool [(1, .methodref 2 3), (0, .class_ 4), (0, .nameAndType 5 6), (0, u "java/util/AbstractCollection"), (0, u "<init>"), (0, u "()V"), (0, .fieldref 8 9), (0, .class_ 10), (0, .nameAndType 11 12), (0, u "java/util/AbstractList"), (0, u "modCount"), (0, u "I"), (64, .class_ 78), (0, u "java/util/AbstractList$Itr"), (3, .class_ 83), (0, u "java/util/AbstractList$ListItr"), (9, .class_ 94), (0, u "java/util/AbstractList$RandomAccessSubList"), (3, .class_ 99), (0, u "java/util/AbstractList$SubList"), (33, .class_ 134), (0, u "java/util/List"), (73, .class_ 209), (0, u "java/util/AbstractList$SubList$1"), (0, .class_ 211), (0, u "java/util/AbstractList$RandomAccessSpliterator")] 6

def k10c0 : Code := { maxStack := 2, maxLocals := 1, code := jdk_39_method_1_code, exceptionTable := #[], attributes := #[] }
def k10m0 : Method := { name := "<init>", desc := "()V", sig := { parameters := [], returnType := none }, accessFlags := 4, code := some k10c0 }
/-- java/util/AbstractList -/
def k10 : Class := { plain "java/util/AbstractList" (some 7) with
  accessFlags := 1057
  interfaces := #[9]
  cf := some (fileOf pool10 8 #[.nestMembers #[93, 98, 208, 210, 82, 77]] #[{ accessFlags := 4, nameIndex := 5, descriptorIndex := 6, attributes := #[] }] 1057 2 #[133] #[{ accessFlags := 132, nameIndex := 11, descriptorIndex := 12, attributes := #[] }])
  fields := #[{ name := "modCount", type := .int, accessFlags := 132, slot := 0, constantValue := 0 }]
  methods := #[k10m0]
  instanceTypes := #[.int]
  staticTypes := #[]
  resolved := Array.replicate 218 none
  statics := none }

def pool11 : Array CpInfo := pool [(1, .class_ 2), (0, u "java/util/RandomAccess"), (0, .class_ 4), (0, u "java/lang/Object")] 2

/-- java/util/RandomAccess -/
def k11 : Class := { plain "java/util/RandomAccess" (some 0) with
  accessFlags := 1537
  interfaces := #[]
  cf := some (fileOf pool11 1 #[] #[] 1537 3 #[] #[])
  fields := #[]
  methods := #[]
  instanceTypes := #[]
  staticTypes := #[]
  resolved := Array.replicate 7 none
  statics := none }

def pool12 : Array CpInfo := pool [(1, .class_ 2), (0, u "java/lang/Cloneable"), (0, .class_ 4), (0, u "java/lang/Object")] 2

/-- java/lang/Cloneable -/
def k12 : Class := { plain "java/lang/Cloneable" (some 0) with
  accessFlags := 1537
  interfaces := #[]
  cf := some (fileOf pool12 1 #[] #[] 1537 3 #[] #[])
  fields := #[]
  methods := #[]
  instanceTypes := #[]
  staticTypes := #[]
  resolved := Array.replicate 7 none
  statics := none }

def pool13 : Array CpInfo := pool [(1, .class_ 2), (0, u "java/io/Serializable"), (0, .class_ 4), (0, u "java/lang/Object")] 2

/-- java/io/Serializable -/
def k13 : Class := { plain "java/io/Serializable" (some 0) with
  accessFlags := 1537
  interfaces := #[]
  cf := some (fileOf pool13 1 #[] #[] 1537 3 #[] #[])
  fields := #[]
  methods := #[]
  instanceTypes := #[]
  staticTypes := #[]
  resolved := Array.replicate 7 none
  statics := none }

def pool14 : Array CpInfo := pool [(1, .methodref 2 3), (0, .class_ 4), (0, .nameAndType 5 6), (0, u "java/util/AbstractList"), (0, u "<init>"), (0, u "()V"), (2, .fieldref 10 11), (0, .class_ 12), (0, .nameAndType 13 14), (0, u "java/util/ArrayList"), (0, u "elementData"), (0, u "[Ljava/lang/Object;"), (2, u "EMPTY_ELEMENTDATA"), (21, .fieldref 10 40), (0, .nameAndType 41 14), (0, u "DEFAULTCAPACITY_EMPTY_ELEMENTDATA"), (8, u "size"), (0, u "I"), (96, .class_ 149), (0, u "java/util/List"), (112, .class_ 263), (0, u "java/util/ArrayList$ListItr"), (3, .class_ 268), (0, u "java/util/ArrayList$Itr"), (7, .class_ 277), (0, u "java/util/ArrayList$SubList"), (12, .class_ 291), (0, u "java/util/ArrayList$ArrayListSpliterator"), (37, .class_ 330), (0, u "java/util/RandomAccess"), (0, .class_ 332), (0, u "java/lang/Cloneable"), (0, .class_ 334), (0, u "java/io/Serializable"), (0, u "serialVersionUID"), (0, u "J"), (3, u "DEFAULT_CAPACITY"), (159, .class_ 501), (0, u "java/util/ArrayList$SubList$2"), (0, .class_ 503), (0, u "java/util/ArrayList$SubList$1")] 5

def k14c0 : Code := { maxStack := 2, maxLocals := 1, code := jdk_38_method_2_code, exceptionTable := #[], attributes := #[] }
def k14m0 : Method := { name := "<init>", desc := "()V", sig := { parameters := [], returnType := none }, accessFlags := 1, code := some k14c0 }
/-- java/util/ArrayList -/
def k14 : Class := { plain "java/util/ArrayList" (some 10) with
  accessFlags := 33
  interfaces := #[9, 11, 12, 13]
  cf := some (fileOf pool14 10 #[.nestMembers #[290, 276, 500, 502, 262, 267]] #[{ accessFlags := 1, nameIndex := 5, descriptorIndex := 6, attributes := #[] }] 33 2 #[148, 329, 331, 333] #[{ accessFlags := 26, nameIndex := 335, descriptorIndex := 336, attributes := #[] }, { accessFlags := 26, nameIndex := 340, descriptorIndex := 51, attributes := #[] }, { accessFlags := 26, nameIndex := 17, descriptorIndex := 14, attributes := #[] }, { accessFlags := 26, nameIndex := 41, descriptorIndex := 14, attributes := #[] }, { accessFlags := 128, nameIndex := 13, descriptorIndex := 14, attributes := #[] }, { accessFlags := 2, nameIndex := 50, descriptorIndex := 51, attributes := #[] }])
  fields := #[{ name := "serialVersionUID", type := .long, accessFlags := 26, slot := 0, constantValue := 0 }, { name := "DEFAULT_CAPACITY", type := .int, accessFlags := 26, slot := 1, constantValue := 0 }, { name := "EMPTY_ELEMENTDATA", type := (.array (.object "java/lang/Object")), accessFlags := 26, slot := 2, constantValue := 0 }, { name := "DEFAULTCAPACITY_EMPTY_ELEMENTDATA", type := (.array (.object "java/lang/Object")), accessFlags := 26, slot := 3, constantValue := 0 }, { name := "elementData", type := (.array (.object "java/lang/Object")), accessFlags := 128, slot := 1, constantValue := 0 }, { name := "size", type := .int, accessFlags := 2, slot := 2, constantValue := 0 }]
  methods := #[k14m0]
  instanceTypes := #[.int, (.array (.object "java/lang/Object")), .int]
  staticTypes := #[.long, .int, (.array (.object "java/lang/Object")), (.array (.object "java/lang/Object"))]
  resolved := Array.replicate 509 none
  statics := some 1 }

/-- the primitive byte -/
def k15 : Class := { plain "byte" none with kind := .primitive 'B', accessFlags := 0x411 }
/-- [B -/
def k16 : Class := { plain "[B" (some 0) with kind := .array 15 .byte, interfaces := #[12, 13], accessFlags := 1041 }

/-- the primitive int -/
def k17 : Class := { plain "int" none with kind := .primitive 'I', accessFlags := 0x411 }
/-- [I -/
def k18 : Class := { plain "[I" (some 0) with kind := .array 17 .int, interfaces := #[12, 13], accessFlags := 1041 }

/-- [Ljava/lang/Object; -/
def k19 : Class := { plain "[Ljava/lang/Object;" (some 0) with kind := .array 0 (.object "java/lang/Object"), interfaces := #[12, 13], accessFlags := 1041 }

def heap : Heap := #[{ cls := 4, slots := #[.int 0, .ref 2], vm := .statics 4 },
  { cls := 14, slots := #[.long 0, .int 0, .ref 3, .ref 4], vm := .statics 14 },
  { cls := 4, slots := #[.null, .int (-1), .null, .null], vm := .none },
  { cls := 19, slots := #[], vm := .none },
  { cls := 19, slots := #[], vm := .none }]
def classes : Array Class := #[k0, k1, k2, k3, k4, k5, k6, k7, k8, k9, k10, k11, k12, k13, k14, k15, k16, k17, k18, k19]
def interned : List (Array UInt16 × Addr) := []
def slotsUsed : Nat := 10
def theMethod : MethodId := ⟨1, 1⟩
def args0 : Array Value := #[.int 5, .long 5]
def aboutOver (below : List Frame) : State where
  vm := { classes := classes, interned := interned.toArray }
  heap := heap
  slotsUsed := slotsUsed
  threads := #[{ frames := .invoking theMethod args0 :: below }]
def below0 : List Frame := [.native { method := ⟨0, 0⟩, args := #[] }]
def about1 : State := aboutOver below0
def p0 : Program := .bare "" "" ""
def e0 : Env := launch0.env 0 0 0
theorem w_frames : about1.frames = Frame.invoking theMethod args0 :: below0 := rfl
set_option maxRecDepth 65536 in
theorem w_args : argsFit about1.vm theMethod args0 = true := by decide +kernel
set_option maxRecDepth 65536 in
theorem w_heap : heapFits about1 = true := by decide +kernel
set_option maxRecDepth 65536 in
theorem w_runnable : about1.curStatus? = some .runnable := by decide +kernel
set_option maxRecDepth 65536 in
theorem w_alone : about1.alone = true := by decide +kernel
set_option maxRecDepth 65536 in
theorem w_named : about1.methodNamed? x = some theMethod := by decide +kernel
set_option maxRecDepth 65536 in
theorem w_hears : about1.hears theMethod below0 = true := by decide +kernel
set_option maxRecDepth 65536 in
theorem w_ripe : about1.ripe theMethod args0 below0 = true := by decide +kernel
theorem w_running : about1.status = .running := rfl
set_option maxRecDepth 65536 in
theorem w_room : about1.hasRoom e0.platform room_1 = true :=
  launch0.hasRoom_least _ room_1 (by decide +kernel) (by decide +kernel) (by decide +kernel) (by decide +kernel) (by decide +kernel) (by decide +kernel)
theorem allAtoms_all (ts : List Jvm.Cond) (a : Array Jvm.Value) (st : Jvm.State) : (allAtoms ts).before a st = ts.all (fun c => c.before a st) := by
  induction ts with
  | nil => rfl
  | cons c t ih =>
    show (Jvm.Cond.and c (allAtoms t)).before a st = _
    rw [Jvm.Cond.before_and, ih, List.all_cons]
def words1 : List Jvm.Cond := Jvm.Cond.code x code maxLocals ret :: tables_1
/-- a 'code' word, met by the world's own term for the bytes: nothing is compared byte by byte -/
theorem code_word {y : MethodName} {bytes : ByteArray} {mx : Nat} {rt : Option FieldType} {a : Array Value} {s : State} {m : MethodId} {meth : Method} {c : Code} (h1 : s.methodNamed? y = some m) (h2 : s.vm.method? m = some meth) (h3 : meth.code = some c) (h4 : c.code = bytes)
    (h5 : (c.maxLocals == mx && c.exceptionTable.isEmpty && decide (c.maxStack ≤ mostOperands) && decide (meth.sig.returnType = rt) && !meth.locks && decide (parseMethodDescriptor y.desc = some meth.sig)) = true) : (Jvm.Cond.code y bytes mx rt).before a s = true := by
  simp only [Bool.and_eq_true, beq_iff_eq, Bool.not_eq_true', decide_eq_true_eq] at h5
  obtain ⟨⟨⟨⟨⟨g1, g2⟩, g3⟩, g4⟩, g5⟩, g6⟩ := h5
  simp [Cond.before, Cond.holds, Cond.value, h1, h2, h3, h4, g1, g2, g3, g4, g5, g6]
def isCode : Jvm.Cond → Bool
  | .code _ _ _ _ => true
  | _ => false
theorem all_split {L : List Jvm.Cond} {P : Jvm.Cond → Bool} (h1 : L.all (fun c => isCode c || P c) = true) (h2 : ∀ c ∈ L.filter isCode, P c = true) : L.all P = true := by
  refine List.all_eq_true.mpr fun c hc => ?_
  have h := List.all_eq_true.mp h1 c hc
  rcases Bool.eq_false_or_eq_true (isCode c) with hi | hi
  · exact h2 c (List.mem_filter.mpr ⟨hc, hi⟩)
  · simpa [hi] using h
set_option maxRecDepth 65536 in
theorem w_c0 : (Jvm.Cond.code x code maxLocals ret).before args0 about1 = true := code_word (m := ⟨1, 1⟩) (meth := k1m1) (c := k1c1) (by decide +kernel) rfl rfl rfl (by decide +kernel)
set_option maxRecDepth 65536 in
theorem w_c1 : (Jvm.Cond.code ({ cls := "java/util/ArrayList", name := "<init>", desc := "()V" } : Jvm.MethodName) jdk_38_method_2_code (1 : Nat) (Option.none : Option Jvm.ClassFile.FieldType)).before args0 about1 = true := code_word (m := ⟨14, 0⟩) (meth := k14m0) (c := k14c0) (by decide +kernel) rfl rfl rfl (by decide +kernel)
set_option maxRecDepth 65536 in
theorem w_c2 : (Jvm.Cond.code ({ cls := "java/util/AbstractList", name := "<init>", desc := "()V" } : Jvm.MethodName) jdk_39_method_1_code (1 : Nat) (Option.none : Option Jvm.ClassFile.FieldType)).before args0 about1 = true := code_word (m := ⟨10, 0⟩) (meth := k10m0) (c := k10c0) (by decide +kernel) rfl rfl rfl (by decide +kernel)
set_option maxRecDepth 65536 in
theorem w_c3 : (Jvm.Cond.code ({ cls := "java/util/AbstractCollection", name := "<init>", desc := "()V" } : Jvm.MethodName) jdk_22_method_1_code (1 : Nat) (Option.none : Option Jvm.ClassFile.FieldType)).before args0 about1 = true := code_word (m := ⟨7, 0⟩) (meth := k7m0) (c := k7c0) (by decide +kernel) rfl rfl rfl (by decide +kernel)
set_option maxRecDepth 65536 in
theorem w_c4 : (Jvm.Cond.code ({ cls := "java/lang/Object", name := "<init>", desc := "()V" } : Jvm.MethodName) object_method_1_code (1 : Nat) (Option.none : Option Jvm.ClassFile.FieldType)).before args0 about1 = true := code_word (m := ⟨0, 0⟩) (meth := k0m0) (c := k0c0) (by decide +kernel) rfl rfl rfl (by decide +kernel)
set_option maxRecDepth 65536 in
theorem w_c5 : (Jvm.Cond.code ({ cls := "wayfarer/process/RepeatStep", name := "<init>", desc := "(Ljava/util/List;ILwayfarer/process/RepeatStep$Condition;Lwayfarer/process/RepeatStep$Condition;)V" } : Jvm.MethodName) prog_134_method_1_code (5 : Nat) (Option.none : Option Jvm.ClassFile.FieldType)).before args0 about1 = true := code_word (m := ⟨4, 0⟩) (meth := k4m0) (c := k4c0) (by decide +kernel) rfl rfl rfl (by decide +kernel)
set_option maxRecDepth 65536 in
theorem w_c6 : (Jvm.Cond.code ({ cls := "java/lang/Record", name := "<init>", desc := "()V" } : Jvm.MethodName) jdk_30_method_1_code (1 : Nat) (Option.none : Option Jvm.ClassFile.FieldType)).before args0 about1 = true := code_word (m := ⟨2, 0⟩) (meth := k2m0) (c := k2c0) (by decide +kernel) rfl rfl rfl (by decide +kernel)
set_option maxRecDepth 65536 in
theorem w_c7 : (Jvm.Cond.code ({ cls := "wayfarer/process/RepeatStep", name := "endsAfter", desc := "(J)Z" } : Jvm.MethodName) prog_134_method_6_code (3 : Nat) (Option.some Jvm.ClassFile.FieldType.boolean)).before args0 about1 = true := code_word (m := ⟨4, 1⟩) (meth := k4m1) (c := k4c1) (by decide +kernel) rfl rfl rfl (by decide +kernel)
def codes1 : List Jvm.Cond := [Jvm.Cond.code x code maxLocals ret, Jvm.Cond.code ({ cls := "java/util/ArrayList", name := "<init>", desc := "()V" } : Jvm.MethodName) jdk_38_method_2_code (1 : Nat) (Option.none : Option Jvm.ClassFile.FieldType), Jvm.Cond.code ({ cls := "java/util/AbstractList", name := "<init>", desc := "()V" } : Jvm.MethodName) jdk_39_method_1_code (1 : Nat) (Option.none : Option Jvm.ClassFile.FieldType), Jvm.Cond.code ({ cls := "java/util/AbstractCollection", name := "<init>", desc := "()V" } : Jvm.MethodName) jdk_22_method_1_code (1 : Nat) (Option.none : Option Jvm.ClassFile.FieldType), Jvm.Cond.code ({ cls := "java/lang/Object", name := "<init>", desc := "()V" } : Jvm.MethodName) object_method_1_code (1 : Nat) (Option.none : Option Jvm.ClassFile.FieldType), Jvm.Cond.code ({ cls := "wayfarer/process/RepeatStep", name := "<init>", desc := "(Ljava/util/List;ILwayfarer/process/RepeatStep$Condition;Lwayfarer/process/RepeatStep$Condition;)V" } : Jvm.MethodName) prog_134_method_1_code (5 : Nat) (Option.none : Option Jvm.ClassFile.FieldType), Jvm.Cond.code ({ cls := "java/lang/Record", name := "<init>", desc := "()V" } : Jvm.MethodName) jdk_30_method_1_code (1 : Nat) (Option.none : Option Jvm.ClassFile.FieldType), Jvm.Cond.code ({ cls := "wayfarer/process/RepeatStep", name := "endsAfter", desc := "(J)Z" } : Jvm.MethodName) prog_134_method_6_code (3 : Nat) (Option.some Jvm.ClassFile.FieldType.boolean)]
set_option maxRecDepth 65536 in
theorem codes_eq : words1.filter isCode = codes1 := rfl
theorem w_codes : ∀ c ∈ words1.filter isCode, c.before args0 about1 = true := by
  rw [codes_eq]
  intro c hc
  simp only [codes1, List.mem_cons, List.not_mem_nil, or_false] at hc
  rcases hc with rfl | rfl | rfl | rfl | rfl | rfl | rfl | rfl
  · exact w_c0
  · exact w_c1
  · exact w_c2
  · exact w_c3
  · exact w_c4
  · exact w_c5
  · exact w_c6
  · exact w_c7
set_option maxRecDepth 65536 in
theorem w_t1 : (words1.take 24).all (fun c => isCode c || c.before args0 about1) = true := by decide +kernel
set_option maxRecDepth 65536 in
theorem w_t2 : ((words1.drop 24).take 24).all (fun c => isCode c || c.before args0 about1) = true := by decide +kernel
set_option maxRecDepth 65536 in
theorem w_t3 : ((words1.drop 24).drop 24).all (fun c => isCode c || c.before args0 about1) = true := by decide +kernel
theorem w_tables : (allAtoms (Jvm.Cond.code x code maxLocals ret :: tables_1)).before args0 about1 = true := by
  rw [allAtoms_all]
  show words1.all (fun c => c.before args0 about1) = true
  refine all_split ?_ w_codes
  rw [← List.take_append_drop 24 words1, List.all_append, w_t1, ← List.take_append_drop 24 (words1.drop 24), List.all_append, w_t2, w_t3]
  rfl
set_option maxRecDepth 65536 in
theorem w_rest : rest_1_c.before args0 about1 = true := by decide +kernel
set_option maxRecDepth 65536 in
theorem w_case : (Jvm.Cond.and given_1 narrow_1).before args0 about1 = true := by decide +kernel
theorem w_applies : (headSpec (Jvm.Cond.code x code maxLocals ret :: tables_1) room_1).applies x e0.platform about1 = true :=
  (Spec.applies_iff w_frames).mpr ⟨w_running, w_runnable, w_alone, w_named, w_hears, w_ripe, w_room, w_tables⟩
theorem atStart : AtStart classFile x code maxLocals ret World_1 tables_1 room_1 Calls_1 rest_1 Pre_1 launch0 p0 e0 about1 theMethod args0 below0 :=
  ⟨lists_1, trivial, launch0.admits_env _ _ _, launch0.least_env, fairChoices_fair.cas, fairChoices_fair.clock, w_frames, w_args, w_heap, w_applies, trivial, w_rest, w_case⟩
end start1
theorem witness_1 : WitnessClaimed_1 := ⟨start1.p0, start1.e0, start1.about1, start1.theMethod, start1.args0, start1.below0, start1.atStart⟩
end Jvm.Pilot.@@N@@
