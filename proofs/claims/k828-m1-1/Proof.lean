import JvmDerived
import JvmDerived.Pilot.@@N@@Statement
import JvmDerived.Pilot.@@N@@Code
set_option linter.unusedVariables false
set_option linter.unusedSimpArgs false
namespace Jvm.Pilot.@@N@@
open Jvm Jvm.ClassFile Sem Op Lib Jvm.Free Jvm.Stand Jvm.LawKit Jvm.RoadKit Bundle Jvm.Pilot.@@N@@.Jvm.D
section Own
variable {p : Program} {l : Launch} {e : Env} {R : Room} {s : State} {m : MethodId} {args : Array Value} {below : List Frame} {meth : Method} {c : Code} {T T' : State} {locs : List Loc} {cells slots : Nat} {QQ : Option Value → Heap → List Loc → Prop} {kc ks : Nat} {f f' : JFrame}
/-- from here the run comes to the method's return, with what QQ says -/
def own_Goes (p : Program) (e : Env) (below : List Frame) (s : State) (QQ : Option Value → Heap → List Loc → Prop) (kc ks : Nat) (T : State) (f : JFrame) : Prop :=
  ∃ s₂ o, Steps p.tables e below (T.setTop f) s₂ ∧ s₂.status = .running ∧ Ended s₂ below o ∧ ∃ v L, o = .returned v ∧ QQ v s₂.heap L ∧ FrameEnd s o s₂ L kc ks
theorem own_step (st : ∀ target, Steps p.tables e below (T'.setTop f') target → Steps p.tables e below (T.setTop f) target) (h : own_Goes p e below s QQ kc ks T' f') : own_Goes p e below s QQ kc ks T f := by
  obtain ⟨s₂, o, h1, r⟩ := h
  exact ⟨s₂, o, st _ h1, r⟩
theorem own_jump (st : Steps p.tables e below (T.setTop f) (T'.setTop f')) (h : own_Goes p e below s QQ kc ks T' f') : own_Goes p e below s QQ kc ks T f := by
  obtain ⟨s₂, o, h1, r⟩ := h
  exact ⟨s₂, o, st.trans h1, r⟩
theorem own_out {v : Option Value} (X : Stand p l e R s m args below meth c T locs cells slots) (hlk : meth.locks = false) (hv : meth.sig.returnType = none → v = none)
    (st : ∀ fs, (∀ (f : JFrame) (acts : List Action), f.method = m → f.locked = none → f.entered = [] → (doReturn e (T.setTop f) acts v).1 = T.setFrames fs) → Steps p.tables e below (T.setTop f) (T.setFrames fs)) (hc : cells ≤ kc) (hs : slots ≤ ks) (hq : QQ v T.heap locs) : own_Goes p e below s QQ kc ks T f := by
  obtain ⟨fs, hr, hrun, hended, hW, hsame⟩ := X.leave (v := v) hv hlk
  exact ⟨_, _, st fs hr, hrun, hended, v, locs, rfl, hq, ⟨_, rfl⟩, hW, hsame.mono hc hs⟩
theorem own_staKeep {Z : State} {h h' : Heap} {C n d : String} {v : Value} {ws : List Addr} (F : Sta Z h C n d v) (K : Keep h h' ws) (q : ∀ x ∈ ws, ∃ cell : Cell, h[x]? = some cell ∧ cell.vm.isStatics = false) : Sta Z h' C n d v := by
  obtain ⟨cf, i, k, f, st, cell, h1, h2, h3, h4, h5, h6, h7⟩ := F
  refine ⟨cf, i, k, f, st, cell, h1, h2, h3, h4, K.2.1 st cell h5 (fun z => ?_), h6, h7⟩
  obtain ⟨c', g1, g2⟩ := q st z
  rw [h5] at g1
  cases g1
  rw [h6] at g2
  cases g2
theorem own_exaNS {Z : State} {h : Heap} {a : Addr} {C : String} (F : Exa Z h a C) : ∃ cell : Cell, h[a]? = some cell ∧ cell.vm.isStatics = false := by
  obtain ⟨cell, k, h1, -, -, h4, -⟩ := F
  exact ⟨cell, h1, h4⟩
end Own
def own_sup (t a b : Int32) : Int32 := if t < a then 0 else if b < t then 0 else 1
theorem d1_0 : decode prog_7_method_8_code 0 = .ok (.iload_n 1, 1) := by decide +kernel
theorem d1_1 : decode prog_7_method_8_code 1 = .ok (.aload_n 0, 1) := by decide +kernel
theorem d1_2 : decode prog_7_method_8_code 2 = .ok (.getfield 48, 3) := by decide +kernel
theorem d1_5 : decode prog_7_method_8_code 5 = .ok (.if_icmp .lt 15, 3) := by decide +kernel
theorem d1_8 : decode prog_7_method_8_code 8 = .ok (.iload_n 1, 1) := by decide +kernel
theorem d1_9 : decode prog_7_method_8_code 9 = .ok (.aload_n 0, 1) := by decide +kernel
theorem d1_10 : decode prog_7_method_8_code 10 = .ok (.getfield 52, 3) := by decide +kernel
theorem d1_13 : decode prog_7_method_8_code 13 = .ok (.if_icmp .gt 7, 3) := by decide +kernel
theorem d1_16 : decode prog_7_method_8_code 16 = .ok (.iconst 1, 1) := by decide +kernel
theorem d1_17 : decode prog_7_method_8_code 17 = .ok (.goto 4, 3) := by decide +kernel
theorem d1_20 : decode prog_7_method_8_code 20 = .ok (.iconst 0, 1) := by decide +kernel
theorem d1_21 : decode prog_7_method_8_code 21 = .ok (.ireturn, 1) := by decide +kernel
theorem pn_0 : plainName "com/example/fair_mutex/fairmutex/Catalog" = true := by first | (simp [plainName, overriddenIn]; done) | decide +kernel
theorem ef_1 (m : MethodId) (x0 : Addr) (x1 : Int32) : entryFrame m #[(.ref x0), (.int x1)] 2 = mkF m 0 #[.val (.ref x0), .val (.int x1)] [] := by first | (simp [entryFrame, mkF, argsToLocals, Value.category]; done) | rfl
def Q1 (Z : State) (a1 : Addr) (p2 : Int32) (q1 : Int32) (q2 : Int32) (h0 : Heap) (n0 : Nat) (v : Option Value) (h : Heap) (L : List Loc) : Prop := v = some (.int (own_sup p2 q1 q2)) ∧ L = [] ∧ h = h0
abbrev R1 : Room := { frames := 0, cells := 0, slots := 0, locals := 0 }
set_option maxRecDepth 65536 in
set_option maxHeartbeats 40000000 in
theorem rm1 (l : Launch) (Z : State) (a0 : Array Value) (hw : ∀ d ∈ tables_1, d.before a0 Z = true) (ws : List Jvm.Cond) (a1 : Addr) (p2 : Int32) (q1 : Int32) (q2 : Int32) (h0 : Heap) (n0 : Nat) (Z0 : n0 ≤ h0.size) (F_minThreads_a1 : Fld Z h0 a1 "com/example/fair_mutex/fairmutex/Catalog" "minThreads" "I" (.int q1)) (F_maxThreads_a1 : Fld Z h0 a1 "com/example/fair_mutex/fairmutex/Catalog" "maxThreads" "I" (.int q2)) :
    MetFree l (⟨"com/example/fair_mutex/fairmutex/Catalog", "supports", "(I)Z"⟩ : MethodName) (head1 (Jvm.Cond.code (⟨"com/example/fair_mutex/fairmutex/Catalog", "supports", "(I)Z"⟩ : MethodName) prog_7_method_8_code 2 (some .boolean) :: ws) R1) (fun a U => a = #[(.ref a1), (.int p2)] ∧ Z.Warmed39 U.vm ∧ U.heap = h0) (fun _ _ _ _ _ => True) (fun _ U o U' => ∃ v L, o = .returned v ∧ Q1 Z a1 p2 q1 q2 h0 n0 v U'.heap L ∧ FrameEnd U o U' L R1.cells R1.slots) := by
  refine MetFree.of_bodySF (plainFor_of_name pn_0) hisR ?_
  intro p e s m args below meth c s₁ Bd hml0 hP hK
  obtain ⟨rfl, hZ, hh⟩ := hP
  have hx := Bd.exec
  have hby := Bd.bytes
  have hlk : meth.locks = false := BodyLoose.notSynchronized Bd
  have hml : c.maxLocals = 2 := hml0
  have hown : s.vm.findClass "com/example/fair_mutex/fairmutex/Catalog" = some m.cls := findClass_of_methodNamed Bd.named
  have hnm := (name_of_methodNamed Bd.named Bd.method).1
  have X0 : Stand p l e R1 s m #[(.ref a1), (.int p2)] below meth c s₁ [] 0 0 := Stand.of_body Bd
  have e0 : s₁.heap = h0 := by rw [← hh, Bd.state]; rfl
  have N0 := Fr.nil n0
  show own_Goes p e below s (Q1 Z a1 p2 q1 q2 h0 n0) R1.cells R1.slots s₁ (entryFrame m #[(.ref a1), (.int p2)] 2)
  rw [ef_1 m a1 p2]
  refine own_step (f' := (mkF m 1 #[.val (.ref a1), .val (.int p2)] [(.int p2)])) (fun _ k => XS.iloadN X0.here hx rfl (hb hby d1_0) rfl k) ?_
  refine own_step (f' := (mkF m 2 #[.val (.ref a1), .val (.int p2)] [(.ref a1), (.int p2)])) (fun _ k => XS.aloadN X0.here hx rfl (hb hby d1_1) rfl rfl k) ?_
  obtain ⟨T1, X1, e1, st1⟩ := getF X0 hx hZ hown (host := "") (Or.inl (hw _ (List.mem_of_getElem? (i := 9) rfl))) Via.refl e0 F_minThreads_a1 (g := (mkF m 2 #[.val (.ref a1), .val (.int p2)] [(.ref a1), (.int p2)])) rfl rfl (hb hby d1_2)
  refine own_step (f' := (mkF m 5 #[.val (.ref a1), .val (.int p2)] [(.int q1), (.int p2)])) st1 ?_
  by_cases hc5_2 : p2 < q1
  · refine own_step (f' := (mkF m 20 #[.val (.ref a1), .val (.int p2)] [])) (fun _ k => XS.icmpYes X1.here hx rfl (pc0 := 5) (pc' := 20) rfl (hb hby d1_5) rfl (tlt hc5_2).1 (by decide) (by decide) k) ?_
    refine own_step (f' := (mkF m 21 #[.val (.ref a1), .val (.int p2)] [(.int (0 : Int32))])) (fun _ k => XS.iconst X1.here hx rfl (hb hby d1_20) k) ?_
    refine own_out (v := some (.int (0 : Int32))) X1 hlk (fun h => by rw [Bd.returns] at h; cases h) (fun fs hr => retN X1 hx (t := .boolean) Bd.returns (by simp) (hb hby d1_21) hr) (by decide) (by decide) ?_
    rw [e1]
    exact ⟨(by rw [own_sup, if_pos hc5_2]), rfl, rfl⟩
  · refine own_step (f' := (mkF m 8 #[.val (.ref a1), .val (.int p2)] [])) (fun _ k => XS.icmpNo X1.here hx rfl (hb hby d1_5) rfl (flt hc5_2).1 k) ?_
    refine own_step (f' := (mkF m 9 #[.val (.ref a1), .val (.int p2)] [(.int p2)])) (fun _ k => XS.iloadN X1.here hx rfl (hb hby d1_8) rfl k) ?_
    refine own_step (f' := (mkF m 10 #[.val (.ref a1), .val (.int p2)] [(.ref a1), (.int p2)])) (fun _ k => XS.aloadN X1.here hx rfl (hb hby d1_9) rfl rfl k) ?_
    obtain ⟨T3, X3, e3, st3⟩ := getF X1 hx hZ hown (host := "") (Or.inl (hw _ (List.mem_of_getElem? (i := 11) rfl))) Via.refl e1 F_maxThreads_a1 (g := (mkF m 10 #[.val (.ref a1), .val (.int p2)] [(.ref a1), (.int p2)])) rfl rfl (hb hby d1_10)
    refine own_step (f' := (mkF m 13 #[.val (.ref a1), .val (.int p2)] [(.int q2), (.int p2)])) st3 ?_
    by_cases hc13_4 : q2 < p2
    · refine own_step (f' := (mkF m 20 #[.val (.ref a1), .val (.int p2)] [])) (fun _ k => XS.icmpYes X3.here hx rfl (pc0 := 13) (pc' := 20) rfl (hb hby d1_13) rfl (tlt hc13_4).2.2.1 (by decide) (by decide) k) ?_
      refine own_step (f' := (mkF m 21 #[.val (.ref a1), .val (.int p2)] [(.int (0 : Int32))])) (fun _ k => XS.iconst X3.here hx rfl (hb hby d1_20) k) ?_
      refine own_out (v := some (.int (0 : Int32))) X3 hlk (fun h => by rw [Bd.returns] at h; cases h) (fun fs hr => retN X3 hx (t := .boolean) Bd.returns (by simp) (hb hby d1_21) hr) (by decide) (by decide) ?_
      rw [e3]
      exact ⟨(by rw [own_sup, if_neg hc5_2, if_pos hc13_4]), rfl, rfl⟩
    · refine own_step (f' := (mkF m 16 #[.val (.ref a1), .val (.int p2)] [])) (fun _ k => XS.icmpNo X3.here hx rfl (hb hby d1_13) rfl (flt hc13_4).2.2.1 k) ?_
      refine own_step (f' := (mkF m 17 #[.val (.ref a1), .val (.int p2)] [(.int (1 : Int32))])) (fun _ k => XS.iconst X3.here hx rfl (hb hby d1_16) k) ?_
      refine own_step (f' := (mkF m 21 #[.val (.ref a1), .val (.int p2)] [(.int (1 : Int32))])) (fun _ k => XS.goto X3.here hx rfl (pc0 := 17) (pc' := 21) rfl (hb hby d1_17) (by decide) (by decide) k) ?_
      refine own_out (v := some (.int (1 : Int32))) X3 hlk (fun h => by rw [Bd.returns] at h; cases h) (fun fs hr => retN X3 hx (t := .boolean) Bd.returns (by simp) (hb hby d1_21) hr) (by decide) (by decide) ?_
      rw [e3]
      exact ⟨(by rw [own_sup, if_neg hc5_2, if_neg hc13_4]), rfl, rfl⟩
theorem pd_0 : parseMethodDescriptor "(I)Z" = some ⟨[.int], some .boolean⟩ := by decide +kernel
theorem pn_1 : plainName "com/example/fair_mutex/fairmutex/CatalogSupportsPinLaw" = true := by first | (simp [plainName, overriddenIn]; done) | decide +kernel
theorem ef_0 (m : MethodId) (x0 : Int32) (x1 : Int32) (x2 : Int32) : entryFrame m #[(.int x0), (.int x1), (.int x2)] maxLocals = mkF m 0 #[.val (.int x0), .val (.int x1), .val (.int x2), .unset, .unset, .unset, .unset, .unset, .unset] [] := by first | (simp [entryFrame, mkF, argsToLocals, Value.category, maxLocals]; done) | rfl
def Q0 (Z : State) (i1 : Int32) (i2 : Int32) (i3 : Int32) (w1 : Addr) (w2 : Addr) (w4 : Addr) (w6 : Addr) (w3 : Addr) (w5 : Addr) (w7 : Addr) (h0 : Heap) (n0 : Nat) (v : Option Value) (h : Heap) (L : List Loc) : Prop := v = some (.int 1) ∧ Fr n0 L
set_option maxRecDepth 65536 in
set_option maxHeartbeats 40000000 in
theorem rm0 (l : Launch) (Z : State) (a0 : Array Value) (hw : ∀ d ∈ tables_1, d.before a0 Z = true) (ws : List Jvm.Cond) (i1 : Int32) (i2 : Int32) (i3 : Int32) (w1 : Addr) (w2 : Addr) (w4 : Addr) (w6 : Addr) (w3 : Addr) (w5 : Addr) (w7 : Addr) (h0 : Heap) (n0 : Nat) (Z0 : n0 ≤ h0.size) (S_PETERSON : Sta Z h0 "com/example/fair_mutex/fairmutex/Catalog" "PETERSON" "Lcom/example/fair_mutex/fairmutex/Catalog;" (.ref w1)) (E_w1 : Exa Z h0 w1 "com/example/fair_mutex/fairmutex/Catalog") (S_TOURNAMENT : Sta Z h0 "com/example/fair_mutex/fairmutex/Catalog" "TOURNAMENT" "Lcom/example/fair_mutex/fairmutex/Catalog;" (.ref w2)) (E_w2 : Exa Z h0 w2 "com/example/fair_mutex/fairmutex/Catalog") (S_ONE_BIT : Sta Z h0 "com/example/fair_mutex/fairmutex/Catalog" "ONE_BIT" "Lcom/example/fair_mutex/fairmutex/Catalog;" (.ref w4)) (E_w4 : Exa Z h0 w4 "com/example/fair_mutex/fairmutex/Catalog") (S_SEMAPHORE : Sta Z h0 "com/example/fair_mutex/fairmutex/Catalog" "SEMAPHORE" "Lcom/example/fair_mutex/fairmutex/Catalog;" (.ref w6)) (E_w6 : Exa Z h0 w6 "com/example/fair_mutex/fairmutex/Catalog") (S_FAIR_TOURNAMENT : Sta Z h0 "com/example/fair_mutex/fairmutex/Catalog" "FAIR_TOURNAMENT" "Lcom/example/fair_mutex/fairmutex/Catalog;" (.ref w3)) (E_w3 : Exa Z h0 w3 "com/example/fair_mutex/fairmutex/Catalog") (S_THREE_BIT : Sta Z h0 "com/example/fair_mutex/fairmutex/Catalog" "THREE_BIT" "Lcom/example/fair_mutex/fairmutex/Catalog;" (.ref w5)) (E_w5 : Exa Z h0 w5 "com/example/fair_mutex/fairmutex/Catalog") (S_SPLIT_SEMAPHORE : Sta Z h0 "com/example/fair_mutex/fairmutex/Catalog" "SPLIT_SEMAPHORE" "Lcom/example/fair_mutex/fairmutex/Catalog;" (.ref w7)) (E_w7 : Exa Z h0 w7 "com/example/fair_mutex/fairmutex/Catalog") (F_minThreads_w1 : Fld Z h0 w1 "com/example/fair_mutex/fairmutex/Catalog" "minThreads" "I" (.int (2 : Int32))) (F_maxThreads_w1 : Fld Z h0 w1 "com/example/fair_mutex/fairmutex/Catalog" "maxThreads" "I" (.int (2 : Int32))) (F_minThreads_w2 : Fld Z h0 w2 "com/example/fair_mutex/fairmutex/Catalog" "minThreads" "I" (.int (2 : Int32))) (F_maxThreads_w2 : Fld Z h0 w2 "com/example/fair_mutex/fairmutex/Catalog" "maxThreads" "I" (.int (5 : Int32))) (F_minThreads_w4 : Fld Z h0 w4 "com/example/fair_mutex/fairmutex/Catalog" "minThreads" "I" (.int (2 : Int32))) (F_maxThreads_w4 : Fld Z h0 w4 "com/example/fair_mutex/fairmutex/Catalog" "maxThreads" "I" (.int (5 : Int32))) (F_minThreads_w6 : Fld Z h0 w6 "com/example/fair_mutex/fairmutex/Catalog" "minThreads" "I" (.int (2 : Int32))) (F_minThreads_w3 : Fld Z h0 w3 "com/example/fair_mutex/fairmutex/Catalog" "minThreads" "I" (.int (2 : Int32))) (F_maxThreads_w3 : Fld Z h0 w3 "com/example/fair_mutex/fairmutex/Catalog" "maxThreads" "I" (.int (5 : Int32))) (F_minThreads_w5 : Fld Z h0 w5 "com/example/fair_mutex/fairmutex/Catalog" "minThreads" "I" (.int (2 : Int32))) (F_minThreads_w7 : Fld Z h0 w7 "com/example/fair_mutex/fairmutex/Catalog" "minThreads" "I" (.int (2 : Int32))) (F_maxThreads_w7 : Fld Z h0 w7 "com/example/fair_mutex/fairmutex/Catalog" "maxThreads" "I" (.int (5 : Int32))) (F_maxThreads_w5 : Fld Z h0 w5 "com/example/fair_mutex/fairmutex/Catalog" "maxThreads" "I" (.int (3 : Int32))) (F_maxThreads_w6 : Fld Z h0 w6 "com/example/fair_mutex/fairmutex/Catalog" "maxThreads" "I" (.int (5 : Int32))) :
    MetFree l x (head1 (Jvm.Cond.code x code maxLocals ret :: ws) room_1) (fun a U => a = #[(.int i1), (.int i2), (.int i3)] ∧ Z.Warmed39 U.vm ∧ U.heap = h0) (fun _ _ _ _ _ => True) (fun _ U o U' => ∃ v L, o = .returned v ∧ Q0 Z i1 i2 i3 w1 w2 w4 w6 w3 w5 w7 h0 n0 v U'.heap L ∧ FrameEnd U o U' L room_1.cells room_1.slots) := by
  refine MetFree.of_bodySF (plainFor_of_name pn_1) hisR ?_
  intro p e s m args below meth c s₁ Bd hml0 hP hK
  obtain ⟨rfl, hZ, hh⟩ := hP
  have hx := Bd.exec
  have hby := Bd.bytes
  have hlk : meth.locks = false := BodyLoose.notSynchronized Bd
  have hml : c.maxLocals = 9 := hml0
  have hown : s.vm.findClass "com/example/fair_mutex/fairmutex/CatalogSupportsPinLaw" = some m.cls := findClass_of_methodNamed Bd.named
  have hnm := (name_of_methodNamed Bd.named Bd.method).1
  have X0 : Stand p l e room_1 s m #[(.int i1), (.int i2), (.int i3)] below meth c s₁ [] 0 0 := Stand.of_body Bd
  have e0 : s₁.heap = h0 := by rw [← hh, Bd.state]; rfl
  have N0 := Fr.nil n0
  show own_Goes p e below s (Q0 Z i1 i2 i3 w1 w2 w4 w6 w3 w5 w7 h0 n0) room_1.cells room_1.slots s₁ (entryFrame m #[(.int i1), (.int i2), (.int i3)] maxLocals)
  rw [ef_0 m i1 i2 i3]
  refine own_step (f' := (mkF m 1 #[.val (.int i1), .val (.int i2), .val (.int i3), .unset, .unset, .unset, .unset, .unset, .unset] [(.int i1)])) (fun _ k => XS.iloadN X0.here hx rfl (hb hby at_0) rfl k) ?_
  refine own_step (f' := (mkF m 3 #[.val (.int i1), .val (.int i2), .val (.int i3), .unset, .unset, .unset, .unset, .unset, .unset] [(.int (2147483647 : Int32)), (.int i1)])) (fun _ k => X0.ldcInt hx hown (mvT hZ (hw _ (List.mem_of_getElem? (i := 0) rfl))) (g := (mkF m 1 #[.val (.int i1), .val (.int i2), .val (.int i3), .unset, .unset, .unset, .unset, .unset, .unset] [(.int i1)])) rfl (hb hby at_1) _ k) ?_
  refine own_step (f' := (mkF m 4 #[.val (.int i1), .val (.int i2), .val (.int i3), .unset, .unset, .unset, .unset, .unset, .unset] [(.int (i1 &&& (2147483647 : Int32)))])) (fun _ k => XS.iand X0.here hx rfl (hb hby at_3) rfl k) ?_
  refine own_step (f' := (mkF m 6 #[.val (.int i1), .val (.int i2), .val (.int i3), .unset, .unset, .unset, .unset, .unset, .unset] [(.int (7 : Int32)), (.int (i1 &&& (2147483647 : Int32)))])) (fun _ k => XS.bipush X0.here hx rfl (hb hby at_4) k) ?_
  refine own_step (f' := (mkF m 7 #[.val (.int i1), .val (.int i2), .val (.int i3), .unset, .unset, .unset, .unset, .unset, .unset] [(.int ((i1 &&& (2147483647 : Int32)) % (7 : Int32)))])) (fun _ k => iremM X0 hx rfl (hb hby at_6) rfl (by decide) k) ?_
  refine own_step (f' := (mkF m 8 #[.val (.int i1), .val (.int i2), .val (.int i3), .val (.int ((i1 &&& (2147483647 : Int32)) % (7 : Int32))), .unset, .unset, .unset, .unset, .unset] [])) (fun _ k => XS.istoreN X0.here hx rfl (hb hby at_7) rfl (l' := #[.val (.int i1), .val (.int i2), .val (.int i3), .val (.int ((i1 &&& (2147483647 : Int32)) % (7 : Int32))), .unset, .unset, .unset, .unset, .unset]) rfl k) ?_
  refine own_step (f' := (mkF m 9 #[.val (.int i1), .val (.int i2), .val (.int i3), .val (.int ((i1 &&& (2147483647 : Int32)) % (7 : Int32))), .unset, .unset, .unset, .unset, .unset] [(.int i3)])) (fun _ k => XS.iloadN X0.here hx rfl (hb hby at_8) rfl k) ?_
  refine own_step (f' := (mkF m 10 #[.val (.int i1), .val (.int i2), .val (.int i3), .val (.int ((i1 &&& (2147483647 : Int32)) % (7 : Int32))), .unset, .unset, .unset, .unset, .unset] [(.int (1 : Int32)), (.int i3)])) (fun _ k => XS.iconst X0.here hx rfl (hb hby at_9) k) ?_
  refine own_step (f' := (mkF m 11 #[.val (.int i1), .val (.int i2), .val (.int i3), .val (.int ((i1 &&& (2147483647 : Int32)) % (7 : Int32))), .unset, .unset, .unset, .unset, .unset] [(.int (i3 &&& (1 : Int32)))])) (fun _ k => XS.iand X0.here hx rfl (hb hby at_10) rfl k) ?_
  have J11_2 : ∀ (T11_2 : State) (v11_2_s0 : Int32), Stand p l e room_1 s m #[(.int i1), (.int i2), (.int i3)] below meth c T11_2 [] 0 0 → T11_2.heap = h0 → v11_2_s0 = (if (i3 &&& (1 : Int32)) = (0 : Int32) then ((i2 &&& (7 : Int32)) - (1 : Int32)) else i2) → own_Goes p e below s (Q0 Z i1 i2 i3 w1 w2 w4 w6 w3 w5 w7 h0 n0) room_1.cells room_1.slots T11_2 (mkF m 24 #[.val (.int i1), .val (.int i2), .val (.int i3), .val (.int ((i1 &&& (2147483647 : Int32)) % (7 : Int32))), .unset, .unset, .unset, .unset, .unset] [(.int v11_2_s0)]) := by
    intro T11_2 v11_2_s0 X11_2 e11_2 hv11_2_0
    refine own_step (f' := (mkF m 26 #[.val (.int i1), .val (.int i2), .val (.int i3), .val (.int ((i1 &&& (2147483647 : Int32)) % (7 : Int32))), .val (.int v11_2_s0), .unset, .unset, .unset, .unset] [])) (fun _ k => XS.istore X11_2.here hx rfl (hb hby at_24) rfl (l' := #[.val (.int i1), .val (.int i2), .val (.int i3), .val (.int ((i1 &&& (2147483647 : Int32)) % (7 : Int32))), .val (.int v11_2_s0), .unset, .unset, .unset, .unset]) rfl k) ?_
    refine own_step (f' := (mkF m 27 #[.val (.int i1), .val (.int i2), .val (.int i3), .val (.int ((i1 &&& (2147483647 : Int32)) % (7 : Int32))), .val (.int v11_2_s0), .unset, .unset, .unset, .unset] [(.int (2 : Int32))])) (fun _ k => XS.iconst X11_2.here hx rfl (hb hby at_26) k) ?_
    refine own_step (f' := (mkF m 29 #[.val (.int i1), .val (.int i2), .val (.int i3), .val (.int ((i1 &&& (2147483647 : Int32)) % (7 : Int32))), .val (.int v11_2_s0), .unset, .val (.int (2 : Int32)), .unset, .unset] [])) (fun _ k => XS.istore X11_2.here hx rfl (hb hby at_27) rfl (l' := #[.val (.int i1), .val (.int i2), .val (.int i3), .val (.int ((i1 &&& (2147483647 : Int32)) % (7 : Int32))), .val (.int v11_2_s0), .unset, .val (.int (2 : Int32)), .unset, .unset]) rfl k) ?_
    refine own_step (f' := (mkF m 30 #[.val (.int i1), .val (.int i2), .val (.int i3), .val (.int ((i1 &&& (2147483647 : Int32)) % (7 : Int32))), .val (.int v11_2_s0), .unset, .val (.int (2 : Int32)), .unset, .unset] [(.int ((i1 &&& (2147483647 : Int32)) % (7 : Int32)))])) (fun _ k => XS.iloadN X11_2.here hx rfl (hb hby at_29) rfl k) ?_
    by_cases hc30_3 : ((i1 &&& (2147483647 : Int32)) % (7 : Int32)) = (0 : Int32)
    · refine own_step (f' := (mkF m 33 #[.val (.int i1), .val (.int i2), .val (.int i3), .val (.int ((i1 &&& (2147483647 : Int32)) % (7 : Int32))), .val (.int v11_2_s0), .unset, .val (.int (2 : Int32)), .unset, .unset] [])) (fun _ k => XS.ifNo X11_2.here hx rfl (hb hby at_30) rfl ((if0 _ _).trans (teq hc30_3).2) k) ?_
      obtain ⟨T4, X4, e4, st4⟩ := getS2 X11_2 hx hZ hown (host := "") (Or.inl (hw _ (List.mem_of_getElem? (i := 1) rfl))) Via.refl e11_2 S_PETERSON (g := (mkF m 33 #[.val (.int i1), .val (.int i2), .val (.int i3), .val (.int ((i1 &&& (2147483647 : Int32)) % (7 : Int32))), .val (.int v11_2_s0), .unset, .val (.int (2 : Int32)), .unset, .unset] [])) rfl (hb hby at_33)
      refine own_step (f' := (mkF m 36 #[.val (.int i1), .val (.int i2), .val (.int i3), .val (.int ((i1 &&& (2147483647 : Int32)) % (7 : Int32))), .val (.int v11_2_s0), .unset, .val (.int (2 : Int32)), .unset, .unset] [(.ref w1)])) st4 ?_
      refine own_step (f' := (mkF m 38 #[.val (.int i1), .val (.int i2), .val (.int i3), .val (.int ((i1 &&& (2147483647 : Int32)) % (7 : Int32))), .val (.int v11_2_s0), .val (.ref w1), .val (.int (2 : Int32)), .unset, .unset] [])) (fun _ k => XS.astore X4.here hx rfl (hb hby at_36) rfl rfl (l' := #[.val (.int i1), .val (.int i2), .val (.int i3), .val (.int ((i1 &&& (2147483647 : Int32)) % (7 : Int32))), .val (.int v11_2_s0), .val (.ref w1), .val (.int (2 : Int32)), .unset, .unset]) rfl k) ?_
      refine own_step (f' := (mkF m 39 #[.val (.int i1), .val (.int i2), .val (.int i3), .val (.int ((i1 &&& (2147483647 : Int32)) % (7 : Int32))), .val (.int v11_2_s0), .val (.ref w1), .val (.int (2 : Int32)), .unset, .unset] [(.int (2 : Int32))])) (fun _ k => XS.iconst X4.here hx rfl (hb hby at_38) k) ?_
      refine own_step (f' := (mkF m 41 #[.val (.int i1), .val (.int i2), .val (.int i3), .val (.int ((i1 &&& (2147483647 : Int32)) % (7 : Int32))), .val (.int v11_2_s0), .val (.ref w1), .val (.int (2 : Int32)), .val (.int (2 : Int32)), .unset] [])) (fun _ k => XS.istore X4.here hx rfl (hb hby at_39) rfl (l' := #[.val (.int i1), .val (.int i2), .val (.int i3), .val (.int ((i1 &&& (2147483647 : Int32)) % (7 : Int32))), .val (.int v11_2_s0), .val (.ref w1), .val (.int (2 : Int32)), .val (.int (2 : Int32)), .unset]) rfl k) ?_
      refine own_step (f' := (mkF m 132 #[.val (.int i1), .val (.int i2), .val (.int i3), .val (.int ((i1 &&& (2147483647 : Int32)) % (7 : Int32))), .val (.int v11_2_s0), .val (.ref w1), .val (.int (2 : Int32)), .val (.int (2 : Int32)), .unset] [])) (fun _ k => XS.goto X4.here hx rfl (pc0 := 41) (pc' := 132) rfl (hb hby at_41) (by decide) (by decide) k) ?_
      refine own_step (f' := (mkF m 134 #[.val (.int i1), .val (.int i2), .val (.int i3), .val (.int ((i1 &&& (2147483647 : Int32)) % (7 : Int32))), .val (.int v11_2_s0), .val (.ref w1), .val (.int (2 : Int32)), .val (.int (2 : Int32)), .unset] [(.int (2 : Int32))])) (fun _ k => XS.iload X4.here hx rfl (hb hby at_132) rfl k) ?_
      refine own_step (f' := (mkF m 136 #[.val (.int i1), .val (.int i2), .val (.int i3), .val (.int ((i1 &&& (2147483647 : Int32)) % (7 : Int32))), .val (.int v11_2_s0), .val (.ref w1), .val (.int (2 : Int32)), .val (.int (2 : Int32)), .unset] [(.int v11_2_s0), (.int (2 : Int32))])) (fun _ k => XS.iload X4.here hx rfl (hb hby at_134) rfl k) ?_
      have J136_7 : ∀ (T136_7 : State) (v136_7_s0 : Int32), Stand p l e room_1 s m #[(.int i1), (.int i2), (.int i3)] below meth c T136_7 [] 0 0 → T136_7.heap = h0 → v136_7_s0 = (if v11_2_s0 < (2 : Int32) then (0 : Int32) else (if (2 : Int32) < v11_2_s0 then (0 : Int32) else (1 : Int32))) → own_Goes p e below s (Q0 Z i1 i2 i3 w1 w2 w4 w6 w3 w5 w7 h0 n0) room_1.cells room_1.slots T136_7 (mkF m 151 #[.val (.int i1), .val (.int i2), .val (.int i3), .val (.int ((i1 &&& (2147483647 : Int32)) % (7 : Int32))), .val (.int v11_2_s0), .val (.ref w1), .val (.int (2 : Int32)), .val (.int (2 : Int32)), .unset] [(.int v136_7_s0)]) := by
        intro T136_7 v136_7_s0 X136_7 e136_7 hv136_7_0
        refine own_step (f' := (mkF m 153 #[.val (.int i1), .val (.int i2), .val (.int i3), .val (.int ((i1 &&& (2147483647 : Int32)) % (7 : Int32))), .val (.int v11_2_s0), .val (.ref w1), .val (.int (2 : Int32)), .val (.int (2 : Int32)), .val (.int v136_7_s0)] [])) (fun _ k => XS.istore X136_7.here hx rfl (hb hby at_151) rfl (l' := #[.val (.int i1), .val (.int i2), .val (.int i3), .val (.int ((i1 &&& (2147483647 : Int32)) % (7 : Int32))), .val (.int v11_2_s0), .val (.ref w1), .val (.int (2 : Int32)), .val (.int (2 : Int32)), .val (.int v136_7_s0)]) rfl k) ?_
        refine own_step (f' := (mkF m 155 #[.val (.int i1), .val (.int i2), .val (.int i3), .val (.int ((i1 &&& (2147483647 : Int32)) % (7 : Int32))), .val (.int v11_2_s0), .val (.ref w1), .val (.int (2 : Int32)), .val (.int (2 : Int32)), .val (.int v136_7_s0)] [(.ref w1)])) (fun _ k => XS.aload X136_7.here hx rfl (hb hby at_153) rfl rfl k) ?_
        refine own_step (f' := (mkF m 157 #[.val (.int i1), .val (.int i2), .val (.int i3), .val (.int ((i1 &&& (2147483647 : Int32)) % (7 : Int32))), .val (.int v11_2_s0), .val (.ref w1), .val (.int (2 : Int32)), .val (.int (2 : Int32)), .val (.int v136_7_s0)] [(.int v11_2_s0), (.ref w1)])) (fun _ k => XS.iload X136_7.here hx rfl (hb hby at_155) rfl k) ?_
        have Zq8 : n0 ≤ h0.size := Z0
        obtain ⟨cq8, kq8, q8a, q8b, q8c⟩ := isOf hZ e136_7 E_w1
        obtain ⟨_, _, ⟨T8, L8, k8, n8⟩, -, X8, ⟨Lc8, hQ8, l8, y8, z8⟩, st8⟩ := X136_7.virtualBack hx (y := (⟨"com/example/fair_mutex/fairmutex/Catalog", "supports", "(I)Z"⟩ : MethodName)) (z := (⟨"com/example/fair_mutex/fairmutex/Catalog", "supports", "(I)Z"⟩ : MethodName)) hown (mvT hZ (hw _ (List.mem_of_getElem? (i := 4) rfl))) (mvT hZ (hw _ (List.mem_of_getElem? (i := 5) rfl))) (notFace_of_selects (args := #[]) (mvT hZ (hw _ (List.mem_of_getElem? (i := 7) rfl)))) (mvT hZ (hw _ (List.mem_of_getElem? (i := 7) rfl))) (mvT hZ (hw _ (List.mem_of_getElem? (i := 6) rfl))) (by decide) (backOf (W := 0) (rm1 l Z a0 hw [] w1 v11_2_s0 (2 : Int32) (2 : Int32) h0 n0 Zq8 F_minThreads_w1 F_maxThreads_w1) hZ (hw _ (List.mem_of_getElem? (i := 8) rfl)) (hw _ (List.mem_of_getElem? (i := 2) rfl)) (by decide) (by decide)) q8a q8c (g := (mkF m 157 #[.val (.int i1), .val (.int i2), .val (.int i3), .val (.int ((i1 &&& (2147483647 : Int32)) % (7 : Int32))), .val (.int v11_2_s0), .val (.ref w1), .val (.int (2 : Int32)), .val (.int (2 : Int32)), .val (.int v136_7_s0)] [(.int v11_2_s0), (.ref w1)])) rfl (by rw [hml]; rfl) (Steps.refl _) (argsL := [(.int v11_2_s0)]) (rest := []) (lenOf pd_0 rfl) rfl (by show 2 * 0 + _ ≤ _; exact Nat.le_of_eq rfl) (hb hby at_157) (fun _ _ => ⟨rfl, e136_7, (by decide : 0 + 0 ≤ _), (by decide : 0 + 0 ≤ _)⟩)
        dsimp only [Pt.U, Pt.locs, Pt.cells, Pt.slots] at X8 l8 y8 z8 st8 hQ8
        subst l8 y8 z8
        obtain ⟨rfl, rfl, e8⟩ := hQ8
        try rw [List.append_nil] at X8
        refine own_jump (f' := (mkF m 160 #[.val (.int i1), .val (.int i2), .val (.int i3), .val (.int ((i1 &&& (2147483647 : Int32)) % (7 : Int32))), .val (.int v11_2_s0), .val (.ref w1), .val (.int (2 : Int32)), .val (.int (2 : Int32)), .val (.int v136_7_s0)] [(.int (own_sup v11_2_s0 (2 : Int32) (2 : Int32)))])) st8 ?_
        refine own_step (f' := (mkF m 162 #[.val (.int i1), .val (.int i2), .val (.int i3), .val (.int ((i1 &&& (2147483647 : Int32)) % (7 : Int32))), .val (.int v11_2_s0), .val (.ref w1), .val (.int (2 : Int32)), .val (.int (2 : Int32)), .val (.int v136_7_s0)] [(.int v136_7_s0), (.int (own_sup v11_2_s0 (2 : Int32) (2 : Int32)))])) (fun _ k => XS.iload X8.here hx rfl (hb hby at_160) rfl k) ?_
        have hf162_9 : (own_sup v11_2_s0 (2 : Int32) (2 : Int32)) = v136_7_s0 := hv136_7_0.symm
        refine own_step (f' := (mkF m 165 #[.val (.int i1), .val (.int i2), .val (.int i3), .val (.int ((i1 &&& (2147483647 : Int32)) % (7 : Int32))), .val (.int v11_2_s0), .val (.ref w1), .val (.int (2 : Int32)), .val (.int (2 : Int32)), .val (.int v136_7_s0)] [])) (fun _ k => XS.icmpNo X8.here hx rfl (hb hby at_162) rfl (teq hf162_9).2 k) ?_
        refine own_step (f' := (mkF m 166 #[.val (.int i1), .val (.int i2), .val (.int i3), .val (.int ((i1 &&& (2147483647 : Int32)) % (7 : Int32))), .val (.int v11_2_s0), .val (.ref w1), .val (.int (2 : Int32)), .val (.int (2 : Int32)), .val (.int v136_7_s0)] [(.int (1 : Int32))])) (fun _ k => XS.iconst X8.here hx rfl (hb hby at_165) k) ?_
        refine own_step (f' := (mkF m 170 #[.val (.int i1), .val (.int i2), .val (.int i3), .val (.int ((i1 &&& (2147483647 : Int32)) % (7 : Int32))), .val (.int v11_2_s0), .val (.ref w1), .val (.int (2 : Int32)), .val (.int (2 : Int32)), .val (.int v136_7_s0)] [(.int (1 : Int32))])) (fun _ k => XS.goto X8.here hx rfl (pc0 := 166) (pc' := 170) rfl (hb hby at_166) (by decide) (by decide) k) ?_
        refine own_out (v := some (.int (1 : Int32))) X8 hlk (fun h => by rw [Bd.returns] at h; cases h) (fun fs hr => retN X8 hx (t := .boolean) Bd.returns (by simp) (hb hby at_170) hr) (by decide) (by decide) ?_
        exact ⟨rfl, N0⟩
      by_cases hc136_5 : v11_2_s0 < (2 : Int32)
      · refine own_step (f' := (mkF m 150 #[.val (.int i1), .val (.int i2), .val (.int i3), .val (.int ((i1 &&& (2147483647 : Int32)) % (7 : Int32))), .val (.int v11_2_s0), .val (.ref w1), .val (.int (2 : Int32)), .val (.int (2 : Int32)), .unset] [])) (fun _ k => XS.icmpYes X4.here hx rfl (pc0 := 136) (pc' := 150) rfl (hb hby at_136) rfl (tlt hc136_5).2.2.1 (by decide) (by decide) k) ?_
        refine own_step (f' := (mkF m 151 #[.val (.int i1), .val (.int i2), .val (.int i3), .val (.int ((i1 &&& (2147483647 : Int32)) % (7 : Int32))), .val (.int v11_2_s0), .val (.ref w1), .val (.int (2 : Int32)), .val (.int (2 : Int32)), .unset] [(.int (0 : Int32))])) (fun _ k => XS.iconst X4.here hx rfl (hb hby at_150) k) ?_
        exact J136_7 _ (0 : Int32) X4 e4 (by rw [if_pos hc136_5])
      · refine own_step (f' := (mkF m 139 #[.val (.int i1), .val (.int i2), .val (.int i3), .val (.int ((i1 &&& (2147483647 : Int32)) % (7 : Int32))), .val (.int v11_2_s0), .val (.ref w1), .val (.int (2 : Int32)), .val (.int (2 : Int32)), .unset] [])) (fun _ k => XS.icmpNo X4.here hx rfl (hb hby at_136) rfl (flt hc136_5).2.2.1 k) ?_
        refine own_step (f' := (mkF m 141 #[.val (.int i1), .val (.int i2), .val (.int i3), .val (.int ((i1 &&& (2147483647 : Int32)) % (7 : Int32))), .val (.int v11_2_s0), .val (.ref w1), .val (.int (2 : Int32)), .val (.int (2 : Int32)), .unset] [(.int v11_2_s0)])) (fun _ k => XS.iload X4.here hx rfl (hb hby at_139) rfl k) ?_
        refine own_step (f' := (mkF m 143 #[.val (.int i1), .val (.int i2), .val (.int i3), .val (.int ((i1 &&& (2147483647 : Int32)) % (7 : Int32))), .val (.int v11_2_s0), .val (.ref w1), .val (.int (2 : Int32)), .val (.int (2 : Int32)), .unset] [(.int (2 : Int32)), (.int v11_2_s0)])) (fun _ k => XS.iload X4.here hx rfl (hb hby at_141) rfl k) ?_
        by_cases hc143_1006 : (2 : Int32) < v11_2_s0
        · refine own_step (f' := (mkF m 150 #[.val (.int i1), .val (.int i2), .val (.int i3), .val (.int ((i1 &&& (2147483647 : Int32)) % (7 : Int32))), .val (.int v11_2_s0), .val (.ref w1), .val (.int (2 : Int32)), .val (.int (2 : Int32)), .unset] [])) (fun _ k => XS.icmpYes X4.here hx rfl (pc0 := 143) (pc' := 150) rfl (hb hby at_143) rfl (tlt hc143_1006).2.2.1 (by decide) (by decide) k) ?_
          refine own_step (f' := (mkF m 151 #[.val (.int i1), .val (.int i2), .val (.int i3), .val (.int ((i1 &&& (2147483647 : Int32)) % (7 : Int32))), .val (.int v11_2_s0), .val (.ref w1), .val (.int (2 : Int32)), .val (.int (2 : Int32)), .unset] [(.int (0 : Int32))])) (fun _ k => XS.iconst X4.here hx rfl (hb hby at_150) k) ?_
          exact J136_7 _ (0 : Int32) X4 e4 (by rw [if_neg hc136_5, if_pos hc143_1006])
        · refine own_step (f' := (mkF m 146 #[.val (.int i1), .val (.int i2), .val (.int i3), .val (.int ((i1 &&& (2147483647 : Int32)) % (7 : Int32))), .val (.int v11_2_s0), .val (.ref w1), .val (.int (2 : Int32)), .val (.int (2 : Int32)), .unset] [])) (fun _ k => XS.icmpNo X4.here hx rfl (hb hby at_143) rfl (flt hc143_1006).2.2.1 k) ?_
          refine own_step (f' := (mkF m 147 #[.val (.int i1), .val (.int i2), .val (.int i3), .val (.int ((i1 &&& (2147483647 : Int32)) % (7 : Int32))), .val (.int v11_2_s0), .val (.ref w1), .val (.int (2 : Int32)), .val (.int (2 : Int32)), .unset] [(.int (1 : Int32))])) (fun _ k => XS.iconst X4.here hx rfl (hb hby at_146) k) ?_
          refine own_step (f' := (mkF m 151 #[.val (.int i1), .val (.int i2), .val (.int i3), .val (.int ((i1 &&& (2147483647 : Int32)) % (7 : Int32))), .val (.int v11_2_s0), .val (.ref w1), .val (.int (2 : Int32)), .val (.int (2 : Int32)), .unset] [(.int (1 : Int32))])) (fun _ k => XS.goto X4.here hx rfl (pc0 := 147) (pc' := 151) rfl (hb hby at_147) (by decide) (by decide) k) ?_
          exact J136_7 _ (1 : Int32) X4 e4 (by rw [if_neg hc136_5, if_neg hc143_1006])
    · refine own_step (f' := (mkF m 44 #[.val (.int i1), .val (.int i2), .val (.int i3), .val (.int ((i1 &&& (2147483647 : Int32)) % (7 : Int32))), .val (.int v11_2_s0), .unset, .val (.int (2 : Int32)), .unset, .unset] [])) (fun _ k => XS.ifYes X11_2.here hx rfl (pc0 := 30) (pc' := 44) rfl (hb hby at_30) rfl ((if0 _ _).trans (feq hc30_3).2) (by decide) (by decide) k) ?_
      refine own_step (f' := (mkF m 45 #[.val (.int i1), .val (.int i2), .val (.int i3), .val (.int ((i1 &&& (2147483647 : Int32)) % (7 : Int32))), .val (.int v11_2_s0), .unset, .val (.int (2 : Int32)), .unset, .unset] [(.int ((i1 &&& (2147483647 : Int32)) % (7 : Int32)))])) (fun _ k => XS.iloadN X11_2.here hx rfl (hb hby at_44) rfl k) ?_
      refine own_step (f' := (mkF m 46 #[.val (.int i1), .val (.int i2), .val (.int i3), .val (.int ((i1 &&& (2147483647 : Int32)) % (7 : Int32))), .val (.int v11_2_s0), .unset, .val (.int (2 : Int32)), .unset, .unset] [(.int (1 : Int32)), (.int ((i1 &&& (2147483647 : Int32)) % (7 : Int32)))])) (fun _ k => XS.iconst X11_2.here hx rfl (hb hby at_45) k) ?_
      by_cases hc46_1007 : ((i1 &&& (2147483647 : Int32)) % (7 : Int32)) = (1 : Int32)
      · refine own_step (f' := (mkF m 49 #[.val (.int i1), .val (.int i2), .val (.int i3), .val (.int ((i1 &&& (2147483647 : Int32)) % (7 : Int32))), .val (.int v11_2_s0), .unset, .val (.int (2 : Int32)), .unset, .unset] [])) (fun _ k => XS.icmpNo X11_2.here hx rfl (hb hby at_46) rfl (teq hc46_1007).2 k) ?_
        obtain ⟨T1008, X1008, e1008, st1008⟩ := getS2 X11_2 hx hZ hown (host := "") (Or.inl (hw _ (List.mem_of_getElem? (i := 13) rfl))) Via.refl e11_2 S_TOURNAMENT (g := (mkF m 49 #[.val (.int i1), .val (.int i2), .val (.int i3), .val (.int ((i1 &&& (2147483647 : Int32)) % (7 : Int32))), .val (.int v11_2_s0), .unset, .val (.int (2 : Int32)), .unset, .unset] [])) rfl (hb hby at_49)
        refine own_step (f' := (mkF m 52 #[.val (.int i1), .val (.int i2), .val (.int i3), .val (.int ((i1 &&& (2147483647 : Int32)) % (7 : Int32))), .val (.int v11_2_s0), .unset, .val (.int (2 : Int32)), .unset, .unset] [(.ref w2)])) st1008 ?_
        refine own_step (f' := (mkF m 54 #[.val (.int i1), .val (.int i2), .val (.int i3), .val (.int ((i1 &&& (2147483647 : Int32)) % (7 : Int32))), .val (.int v11_2_s0), .val (.ref w2), .val (.int (2 : Int32)), .unset, .unset] [])) (fun _ k => XS.astore X1008.here hx rfl (hb hby at_52) rfl rfl (l' := #[.val (.int i1), .val (.int i2), .val (.int i3), .val (.int ((i1 &&& (2147483647 : Int32)) % (7 : Int32))), .val (.int v11_2_s0), .val (.ref w2), .val (.int (2 : Int32)), .unset, .unset]) rfl k) ?_
        refine own_step (f' := (mkF m 55 #[.val (.int i1), .val (.int i2), .val (.int i3), .val (.int ((i1 &&& (2147483647 : Int32)) % (7 : Int32))), .val (.int v11_2_s0), .val (.ref w2), .val (.int (2 : Int32)), .unset, .unset] [(.int (5 : Int32))])) (fun _ k => XS.iconst X1008.here hx rfl (hb hby at_54) k) ?_
        refine own_step (f' := (mkF m 57 #[.val (.int i1), .val (.int i2), .val (.int i3), .val (.int ((i1 &&& (2147483647 : Int32)) % (7 : Int32))), .val (.int v11_2_s0), .val (.ref w2), .val (.int (2 : Int32)), .val (.int (5 : Int32)), .unset] [])) (fun _ k => XS.istore X1008.here hx rfl (hb hby at_55) rfl (l' := #[.val (.int i1), .val (.int i2), .val (.int i3), .val (.int ((i1 &&& (2147483647 : Int32)) % (7 : Int32))), .val (.int v11_2_s0), .val (.ref w2), .val (.int (2 : Int32)), .val (.int (5 : Int32)), .unset]) rfl k) ?_
        refine own_step (f' := (mkF m 132 #[.val (.int i1), .val (.int i2), .val (.int i3), .val (.int ((i1 &&& (2147483647 : Int32)) % (7 : Int32))), .val (.int v11_2_s0), .val (.ref w2), .val (.int (2 : Int32)), .val (.int (5 : Int32)), .unset] [])) (fun _ k => XS.goto X1008.here hx rfl (pc0 := 57) (pc' := 132) rfl (hb hby at_57) (by decide) (by decide) k) ?_
        refine own_step (f' := (mkF m 134 #[.val (.int i1), .val (.int i2), .val (.int i3), .val (.int ((i1 &&& (2147483647 : Int32)) % (7 : Int32))), .val (.int v11_2_s0), .val (.ref w2), .val (.int (2 : Int32)), .val (.int (5 : Int32)), .unset] [(.int (2 : Int32))])) (fun _ k => XS.iload X1008.here hx rfl (hb hby at_132) rfl k) ?_
        refine own_step (f' := (mkF m 136 #[.val (.int i1), .val (.int i2), .val (.int i3), .val (.int ((i1 &&& (2147483647 : Int32)) % (7 : Int32))), .val (.int v11_2_s0), .val (.ref w2), .val (.int (2 : Int32)), .val (.int (5 : Int32)), .unset] [(.int v11_2_s0), (.int (2 : Int32))])) (fun _ k => XS.iload X1008.here hx rfl (hb hby at_134) rfl k) ?_
        have J136_1011 : ∀ (T136_1011 : State) (v136_1011_s0 : Int32), Stand p l e room_1 s m #[(.int i1), (.int i2), (.int i3)] below meth c T136_1011 [] 0 0 → T136_1011.heap = h0 → v136_1011_s0 = (if v11_2_s0 < (2 : Int32) then (0 : Int32) else (if (5 : Int32) < v11_2_s0 then (0 : Int32) else (1 : Int32))) → own_Goes p e below s (Q0 Z i1 i2 i3 w1 w2 w4 w6 w3 w5 w7 h0 n0) room_1.cells room_1.slots T136_1011 (mkF m 151 #[.val (.int i1), .val (.int i2), .val (.int i3), .val (.int ((i1 &&& (2147483647 : Int32)) % (7 : Int32))), .val (.int v11_2_s0), .val (.ref w2), .val (.int (2 : Int32)), .val (.int (5 : Int32)), .unset] [(.int v136_1011_s0)]) := by
          intro T136_1011 v136_1011_s0 X136_1011 e136_1011 hv136_1011_0
          refine own_step (f' := (mkF m 153 #[.val (.int i1), .val (.int i2), .val (.int i3), .val (.int ((i1 &&& (2147483647 : Int32)) % (7 : Int32))), .val (.int v11_2_s0), .val (.ref w2), .val (.int (2 : Int32)), .val (.int (5 : Int32)), .val (.int v136_1011_s0)] [])) (fun _ k => XS.istore X136_1011.here hx rfl (hb hby at_151) rfl (l' := #[.val (.int i1), .val (.int i2), .val (.int i3), .val (.int ((i1 &&& (2147483647 : Int32)) % (7 : Int32))), .val (.int v11_2_s0), .val (.ref w2), .val (.int (2 : Int32)), .val (.int (5 : Int32)), .val (.int v136_1011_s0)]) rfl k) ?_
          refine own_step (f' := (mkF m 155 #[.val (.int i1), .val (.int i2), .val (.int i3), .val (.int ((i1 &&& (2147483647 : Int32)) % (7 : Int32))), .val (.int v11_2_s0), .val (.ref w2), .val (.int (2 : Int32)), .val (.int (5 : Int32)), .val (.int v136_1011_s0)] [(.ref w2)])) (fun _ k => XS.aload X136_1011.here hx rfl (hb hby at_153) rfl rfl k) ?_
          refine own_step (f' := (mkF m 157 #[.val (.int i1), .val (.int i2), .val (.int i3), .val (.int ((i1 &&& (2147483647 : Int32)) % (7 : Int32))), .val (.int v11_2_s0), .val (.ref w2), .val (.int (2 : Int32)), .val (.int (5 : Int32)), .val (.int v136_1011_s0)] [(.int v11_2_s0), (.ref w2)])) (fun _ k => XS.iload X136_1011.here hx rfl (hb hby at_155) rfl k) ?_
          have Zq1012 : n0 ≤ h0.size := Z0
          obtain ⟨cq1012, kq1012, q1012a, q1012b, q1012c⟩ := isOf hZ e136_1011 E_w2
          obtain ⟨_, _, ⟨T1012, L1012, k1012, n1012⟩, -, X1012, ⟨Lc1012, hQ1012, l1012, y1012, z1012⟩, st1012⟩ := X136_1011.virtualBack hx (y := (⟨"com/example/fair_mutex/fairmutex/Catalog", "supports", "(I)Z"⟩ : MethodName)) (z := (⟨"com/example/fair_mutex/fairmutex/Catalog", "supports", "(I)Z"⟩ : MethodName)) hown (mvT hZ (hw _ (List.mem_of_getElem? (i := 4) rfl))) (mvT hZ (hw _ (List.mem_of_getElem? (i := 5) rfl))) (notFace_of_selects (args := #[]) (mvT hZ (hw _ (List.mem_of_getElem? (i := 7) rfl)))) (mvT hZ (hw _ (List.mem_of_getElem? (i := 7) rfl))) (mvT hZ (hw _ (List.mem_of_getElem? (i := 6) rfl))) (by decide) (backOf (W := 0) (rm1 l Z a0 hw [] w2 v11_2_s0 (2 : Int32) (5 : Int32) h0 n0 Zq1012 F_minThreads_w2 F_maxThreads_w2) hZ (hw _ (List.mem_of_getElem? (i := 8) rfl)) (hw _ (List.mem_of_getElem? (i := 2) rfl)) (by decide) (by decide)) q1012a q1012c (g := (mkF m 157 #[.val (.int i1), .val (.int i2), .val (.int i3), .val (.int ((i1 &&& (2147483647 : Int32)) % (7 : Int32))), .val (.int v11_2_s0), .val (.ref w2), .val (.int (2 : Int32)), .val (.int (5 : Int32)), .val (.int v136_1011_s0)] [(.int v11_2_s0), (.ref w2)])) rfl (by rw [hml]; rfl) (Steps.refl _) (argsL := [(.int v11_2_s0)]) (rest := []) (lenOf pd_0 rfl) rfl (by show 2 * 0 + _ ≤ _; exact Nat.le_of_eq rfl) (hb hby at_157) (fun _ _ => ⟨rfl, e136_1011, (by decide : 0 + 0 ≤ _), (by decide : 0 + 0 ≤ _)⟩)
          dsimp only [Pt.U, Pt.locs, Pt.cells, Pt.slots] at X1012 l1012 y1012 z1012 st1012 hQ1012
          subst l1012 y1012 z1012
          obtain ⟨rfl, rfl, e1012⟩ := hQ1012
          try rw [List.append_nil] at X1012
          refine own_jump (f' := (mkF m 160 #[.val (.int i1), .val (.int i2), .val (.int i3), .val (.int ((i1 &&& (2147483647 : Int32)) % (7 : Int32))), .val (.int v11_2_s0), .val (.ref w2), .val (.int (2 : Int32)), .val (.int (5 : Int32)), .val (.int v136_1011_s0)] [(.int (own_sup v11_2_s0 (2 : Int32) (5 : Int32)))])) st1012 ?_
          refine own_step (f' := (mkF m 162 #[.val (.int i1), .val (.int i2), .val (.int i3), .val (.int ((i1 &&& (2147483647 : Int32)) % (7 : Int32))), .val (.int v11_2_s0), .val (.ref w2), .val (.int (2 : Int32)), .val (.int (5 : Int32)), .val (.int v136_1011_s0)] [(.int v136_1011_s0), (.int (own_sup v11_2_s0 (2 : Int32) (5 : Int32)))])) (fun _ k => XS.iload X1012.here hx rfl (hb hby at_160) rfl k) ?_
          have hf162_1013 : (own_sup v11_2_s0 (2 : Int32) (5 : Int32)) = v136_1011_s0 := hv136_1011_0.symm
          refine own_step (f' := (mkF m 165 #[.val (.int i1), .val (.int i2), .val (.int i3), .val (.int ((i1 &&& (2147483647 : Int32)) % (7 : Int32))), .val (.int v11_2_s0), .val (.ref w2), .val (.int (2 : Int32)), .val (.int (5 : Int32)), .val (.int v136_1011_s0)] [])) (fun _ k => XS.icmpNo X1012.here hx rfl (hb hby at_162) rfl (teq hf162_1013).2 k) ?_
          refine own_step (f' := (mkF m 166 #[.val (.int i1), .val (.int i2), .val (.int i3), .val (.int ((i1 &&& (2147483647 : Int32)) % (7 : Int32))), .val (.int v11_2_s0), .val (.ref w2), .val (.int (2 : Int32)), .val (.int (5 : Int32)), .val (.int v136_1011_s0)] [(.int (1 : Int32))])) (fun _ k => XS.iconst X1012.here hx rfl (hb hby at_165) k) ?_
          refine own_step (f' := (mkF m 170 #[.val (.int i1), .val (.int i2), .val (.int i3), .val (.int ((i1 &&& (2147483647 : Int32)) % (7 : Int32))), .val (.int v11_2_s0), .val (.ref w2), .val (.int (2 : Int32)), .val (.int (5 : Int32)), .val (.int v136_1011_s0)] [(.int (1 : Int32))])) (fun _ k => XS.goto X1012.here hx rfl (pc0 := 166) (pc' := 170) rfl (hb hby at_166) (by decide) (by decide) k) ?_
          refine own_out (v := some (.int (1 : Int32))) X1012 hlk (fun h => by rw [Bd.returns] at h; cases h) (fun fs hr => retN X1012 hx (t := .boolean) Bd.returns (by simp) (hb hby at_170) hr) (by decide) (by decide) ?_
          exact ⟨rfl, N0⟩
        by_cases hc136_1009 : v11_2_s0 < (2 : Int32)
        · refine own_step (f' := (mkF m 150 #[.val (.int i1), .val (.int i2), .val (.int i3), .val (.int ((i1 &&& (2147483647 : Int32)) % (7 : Int32))), .val (.int v11_2_s0), .val (.ref w2), .val (.int (2 : Int32)), .val (.int (5 : Int32)), .unset] [])) (fun _ k => XS.icmpYes X1008.here hx rfl (pc0 := 136) (pc' := 150) rfl (hb hby at_136) rfl (tlt hc136_1009).2.2.1 (by decide) (by decide) k) ?_
          refine own_step (f' := (mkF m 151 #[.val (.int i1), .val (.int i2), .val (.int i3), .val (.int ((i1 &&& (2147483647 : Int32)) % (7 : Int32))), .val (.int v11_2_s0), .val (.ref w2), .val (.int (2 : Int32)), .val (.int (5 : Int32)), .unset] [(.int (0 : Int32))])) (fun _ k => XS.iconst X1008.here hx rfl (hb hby at_150) k) ?_
          exact J136_1011 _ (0 : Int32) X1008 e1008 (by rw [if_pos hc136_1009])
        · refine own_step (f' := (mkF m 139 #[.val (.int i1), .val (.int i2), .val (.int i3), .val (.int ((i1 &&& (2147483647 : Int32)) % (7 : Int32))), .val (.int v11_2_s0), .val (.ref w2), .val (.int (2 : Int32)), .val (.int (5 : Int32)), .unset] [])) (fun _ k => XS.icmpNo X1008.here hx rfl (hb hby at_136) rfl (flt hc136_1009).2.2.1 k) ?_
          refine own_step (f' := (mkF m 141 #[.val (.int i1), .val (.int i2), .val (.int i3), .val (.int ((i1 &&& (2147483647 : Int32)) % (7 : Int32))), .val (.int v11_2_s0), .val (.ref w2), .val (.int (2 : Int32)), .val (.int (5 : Int32)), .unset] [(.int v11_2_s0)])) (fun _ k => XS.iload X1008.here hx rfl (hb hby at_139) rfl k) ?_
          refine own_step (f' := (mkF m 143 #[.val (.int i1), .val (.int i2), .val (.int i3), .val (.int ((i1 &&& (2147483647 : Int32)) % (7 : Int32))), .val (.int v11_2_s0), .val (.ref w2), .val (.int (2 : Int32)), .val (.int (5 : Int32)), .unset] [(.int (5 : Int32)), (.int v11_2_s0)])) (fun _ k => XS.iload X1008.here hx rfl (hb hby at_141) rfl k) ?_
          by_cases hc143_2010 : (5 : Int32) < v11_2_s0
          · refine own_step (f' := (mkF m 150 #[.val (.int i1), .val (.int i2), .val (.int i3), .val (.int ((i1 &&& (2147483647 : Int32)) % (7 : Int32))), .val (.int v11_2_s0), .val (.ref w2), .val (.int (2 : Int32)), .val (.int (5 : Int32)), .unset] [])) (fun _ k => XS.icmpYes X1008.here hx rfl (pc0 := 143) (pc' := 150) rfl (hb hby at_143) rfl (tlt hc143_2010).2.2.1 (by decide) (by decide) k) ?_
            refine own_step (f' := (mkF m 151 #[.val (.int i1), .val (.int i2), .val (.int i3), .val (.int ((i1 &&& (2147483647 : Int32)) % (7 : Int32))), .val (.int v11_2_s0), .val (.ref w2), .val (.int (2 : Int32)), .val (.int (5 : Int32)), .unset] [(.int (0 : Int32))])) (fun _ k => XS.iconst X1008.here hx rfl (hb hby at_150) k) ?_
            exact J136_1011 _ (0 : Int32) X1008 e1008 (by rw [if_neg hc136_1009, if_pos hc143_2010])
          · refine own_step (f' := (mkF m 146 #[.val (.int i1), .val (.int i2), .val (.int i3), .val (.int ((i1 &&& (2147483647 : Int32)) % (7 : Int32))), .val (.int v11_2_s0), .val (.ref w2), .val (.int (2 : Int32)), .val (.int (5 : Int32)), .unset] [])) (fun _ k => XS.icmpNo X1008.here hx rfl (hb hby at_143) rfl (flt hc143_2010).2.2.1 k) ?_
            refine own_step (f' := (mkF m 147 #[.val (.int i1), .val (.int i2), .val (.int i3), .val (.int ((i1 &&& (2147483647 : Int32)) % (7 : Int32))), .val (.int v11_2_s0), .val (.ref w2), .val (.int (2 : Int32)), .val (.int (5 : Int32)), .unset] [(.int (1 : Int32))])) (fun _ k => XS.iconst X1008.here hx rfl (hb hby at_146) k) ?_
            refine own_step (f' := (mkF m 151 #[.val (.int i1), .val (.int i2), .val (.int i3), .val (.int ((i1 &&& (2147483647 : Int32)) % (7 : Int32))), .val (.int v11_2_s0), .val (.ref w2), .val (.int (2 : Int32)), .val (.int (5 : Int32)), .unset] [(.int (1 : Int32))])) (fun _ k => XS.goto X1008.here hx rfl (pc0 := 147) (pc' := 151) rfl (hb hby at_147) (by decide) (by decide) k) ?_
            exact J136_1011 _ (1 : Int32) X1008 e1008 (by rw [if_neg hc136_1009, if_neg hc143_2010])
      · refine own_step (f' := (mkF m 60 #[.val (.int i1), .val (.int i2), .val (.int i3), .val (.int ((i1 &&& (2147483647 : Int32)) % (7 : Int32))), .val (.int v11_2_s0), .unset, .val (.int (2 : Int32)), .unset, .unset] [])) (fun _ k => XS.icmpYes X11_2.here hx rfl (pc0 := 46) (pc' := 60) rfl (hb hby at_46) rfl (feq hc46_1007).2 (by decide) (by decide) k) ?_
        refine own_step (f' := (mkF m 61 #[.val (.int i1), .val (.int i2), .val (.int i3), .val (.int ((i1 &&& (2147483647 : Int32)) % (7 : Int32))), .val (.int v11_2_s0), .unset, .val (.int (2 : Int32)), .unset, .unset] [(.int ((i1 &&& (2147483647 : Int32)) % (7 : Int32)))])) (fun _ k => XS.iloadN X11_2.here hx rfl (hb hby at_60) rfl k) ?_
        refine own_step (f' := (mkF m 62 #[.val (.int i1), .val (.int i2), .val (.int i3), .val (.int ((i1 &&& (2147483647 : Int32)) % (7 : Int32))), .val (.int v11_2_s0), .unset, .val (.int (2 : Int32)), .unset, .unset] [(.int (2 : Int32)), (.int ((i1 &&& (2147483647 : Int32)) % (7 : Int32)))])) (fun _ k => XS.iconst X11_2.here hx rfl (hb hby at_61) k) ?_
        by_cases hc62_2011 : ((i1 &&& (2147483647 : Int32)) % (7 : Int32)) = (2 : Int32)
        · refine own_step (f' := (mkF m 65 #[.val (.int i1), .val (.int i2), .val (.int i3), .val (.int ((i1 &&& (2147483647 : Int32)) % (7 : Int32))), .val (.int v11_2_s0), .unset, .val (.int (2 : Int32)), .unset, .unset] [])) (fun _ k => XS.icmpNo X11_2.here hx rfl (hb hby at_62) rfl (teq hc62_2011).2 k) ?_
          obtain ⟨T2012, X2012, e2012, st2012⟩ := getS2 X11_2 hx hZ hown (host := "") (Or.inl (hw _ (List.mem_of_getElem? (i := 19) rfl))) Via.refl e11_2 S_FAIR_TOURNAMENT (g := (mkF m 65 #[.val (.int i1), .val (.int i2), .val (.int i3), .val (.int ((i1 &&& (2147483647 : Int32)) % (7 : Int32))), .val (.int v11_2_s0), .unset, .val (.int (2 : Int32)), .unset, .unset] [])) rfl (hb hby at_65)
          refine own_step (f' := (mkF m 68 #[.val (.int i1), .val (.int i2), .val (.int i3), .val (.int ((i1 &&& (2147483647 : Int32)) % (7 : Int32))), .val (.int v11_2_s0), .unset, .val (.int (2 : Int32)), .unset, .unset] [(.ref w3)])) st2012 ?_
          refine own_step (f' := (mkF m 70 #[.val (.int i1), .val (.int i2), .val (.int i3), .val (.int ((i1 &&& (2147483647 : Int32)) % (7 : Int32))), .val (.int v11_2_s0), .val (.ref w3), .val (.int (2 : Int32)), .unset, .unset] [])) (fun _ k => XS.astore X2012.here hx rfl (hb hby at_68) rfl rfl (l' := #[.val (.int i1), .val (.int i2), .val (.int i3), .val (.int ((i1 &&& (2147483647 : Int32)) % (7 : Int32))), .val (.int v11_2_s0), .val (.ref w3), .val (.int (2 : Int32)), .unset, .unset]) rfl k) ?_
          refine own_step (f' := (mkF m 71 #[.val (.int i1), .val (.int i2), .val (.int i3), .val (.int ((i1 &&& (2147483647 : Int32)) % (7 : Int32))), .val (.int v11_2_s0), .val (.ref w3), .val (.int (2 : Int32)), .unset, .unset] [(.int (5 : Int32))])) (fun _ k => XS.iconst X2012.here hx rfl (hb hby at_70) k) ?_
          refine own_step (f' := (mkF m 73 #[.val (.int i1), .val (.int i2), .val (.int i3), .val (.int ((i1 &&& (2147483647 : Int32)) % (7 : Int32))), .val (.int v11_2_s0), .val (.ref w3), .val (.int (2 : Int32)), .val (.int (5 : Int32)), .unset] [])) (fun _ k => XS.istore X2012.here hx rfl (hb hby at_71) rfl (l' := #[.val (.int i1), .val (.int i2), .val (.int i3), .val (.int ((i1 &&& (2147483647 : Int32)) % (7 : Int32))), .val (.int v11_2_s0), .val (.ref w3), .val (.int (2 : Int32)), .val (.int (5 : Int32)), .unset]) rfl k) ?_
          refine own_step (f' := (mkF m 132 #[.val (.int i1), .val (.int i2), .val (.int i3), .val (.int ((i1 &&& (2147483647 : Int32)) % (7 : Int32))), .val (.int v11_2_s0), .val (.ref w3), .val (.int (2 : Int32)), .val (.int (5 : Int32)), .unset] [])) (fun _ k => XS.goto X2012.here hx rfl (pc0 := 73) (pc' := 132) rfl (hb hby at_73) (by decide) (by decide) k) ?_
          refine own_step (f' := (mkF m 134 #[.val (.int i1), .val (.int i2), .val (.int i3), .val (.int ((i1 &&& (2147483647 : Int32)) % (7 : Int32))), .val (.int v11_2_s0), .val (.ref w3), .val (.int (2 : Int32)), .val (.int (5 : Int32)), .unset] [(.int (2 : Int32))])) (fun _ k => XS.iload X2012.here hx rfl (hb hby at_132) rfl k) ?_
          refine own_step (f' := (mkF m 136 #[.val (.int i1), .val (.int i2), .val (.int i3), .val (.int ((i1 &&& (2147483647 : Int32)) % (7 : Int32))), .val (.int v11_2_s0), .val (.ref w3), .val (.int (2 : Int32)), .val (.int (5 : Int32)), .unset] [(.int v11_2_s0), (.int (2 : Int32))])) (fun _ k => XS.iload X2012.here hx rfl (hb hby at_134) rfl k) ?_
          have J136_2015 : ∀ (T136_2015 : State) (v136_2015_s0 : Int32), Stand p l e room_1 s m #[(.int i1), (.int i2), (.int i3)] below meth c T136_2015 [] 0 0 → T136_2015.heap = h0 → v136_2015_s0 = (if v11_2_s0 < (2 : Int32) then (0 : Int32) else (if (5 : Int32) < v11_2_s0 then (0 : Int32) else (1 : Int32))) → own_Goes p e below s (Q0 Z i1 i2 i3 w1 w2 w4 w6 w3 w5 w7 h0 n0) room_1.cells room_1.slots T136_2015 (mkF m 151 #[.val (.int i1), .val (.int i2), .val (.int i3), .val (.int ((i1 &&& (2147483647 : Int32)) % (7 : Int32))), .val (.int v11_2_s0), .val (.ref w3), .val (.int (2 : Int32)), .val (.int (5 : Int32)), .unset] [(.int v136_2015_s0)]) := by
            intro T136_2015 v136_2015_s0 X136_2015 e136_2015 hv136_2015_0
            refine own_step (f' := (mkF m 153 #[.val (.int i1), .val (.int i2), .val (.int i3), .val (.int ((i1 &&& (2147483647 : Int32)) % (7 : Int32))), .val (.int v11_2_s0), .val (.ref w3), .val (.int (2 : Int32)), .val (.int (5 : Int32)), .val (.int v136_2015_s0)] [])) (fun _ k => XS.istore X136_2015.here hx rfl (hb hby at_151) rfl (l' := #[.val (.int i1), .val (.int i2), .val (.int i3), .val (.int ((i1 &&& (2147483647 : Int32)) % (7 : Int32))), .val (.int v11_2_s0), .val (.ref w3), .val (.int (2 : Int32)), .val (.int (5 : Int32)), .val (.int v136_2015_s0)]) rfl k) ?_
            refine own_step (f' := (mkF m 155 #[.val (.int i1), .val (.int i2), .val (.int i3), .val (.int ((i1 &&& (2147483647 : Int32)) % (7 : Int32))), .val (.int v11_2_s0), .val (.ref w3), .val (.int (2 : Int32)), .val (.int (5 : Int32)), .val (.int v136_2015_s0)] [(.ref w3)])) (fun _ k => XS.aload X136_2015.here hx rfl (hb hby at_153) rfl rfl k) ?_
            refine own_step (f' := (mkF m 157 #[.val (.int i1), .val (.int i2), .val (.int i3), .val (.int ((i1 &&& (2147483647 : Int32)) % (7 : Int32))), .val (.int v11_2_s0), .val (.ref w3), .val (.int (2 : Int32)), .val (.int (5 : Int32)), .val (.int v136_2015_s0)] [(.int v11_2_s0), (.ref w3)])) (fun _ k => XS.iload X136_2015.here hx rfl (hb hby at_155) rfl k) ?_
            have Zq2016 : n0 ≤ h0.size := Z0
            obtain ⟨cq2016, kq2016, q2016a, q2016b, q2016c⟩ := isOf hZ e136_2015 E_w3
            obtain ⟨_, _, ⟨T2016, L2016, k2016, n2016⟩, -, X2016, ⟨Lc2016, hQ2016, l2016, y2016, z2016⟩, st2016⟩ := X136_2015.virtualBack hx (y := (⟨"com/example/fair_mutex/fairmutex/Catalog", "supports", "(I)Z"⟩ : MethodName)) (z := (⟨"com/example/fair_mutex/fairmutex/Catalog", "supports", "(I)Z"⟩ : MethodName)) hown (mvT hZ (hw _ (List.mem_of_getElem? (i := 4) rfl))) (mvT hZ (hw _ (List.mem_of_getElem? (i := 5) rfl))) (notFace_of_selects (args := #[]) (mvT hZ (hw _ (List.mem_of_getElem? (i := 7) rfl)))) (mvT hZ (hw _ (List.mem_of_getElem? (i := 7) rfl))) (mvT hZ (hw _ (List.mem_of_getElem? (i := 6) rfl))) (by decide) (backOf (W := 0) (rm1 l Z a0 hw [] w3 v11_2_s0 (2 : Int32) (5 : Int32) h0 n0 Zq2016 F_minThreads_w3 F_maxThreads_w3) hZ (hw _ (List.mem_of_getElem? (i := 8) rfl)) (hw _ (List.mem_of_getElem? (i := 2) rfl)) (by decide) (by decide)) q2016a q2016c (g := (mkF m 157 #[.val (.int i1), .val (.int i2), .val (.int i3), .val (.int ((i1 &&& (2147483647 : Int32)) % (7 : Int32))), .val (.int v11_2_s0), .val (.ref w3), .val (.int (2 : Int32)), .val (.int (5 : Int32)), .val (.int v136_2015_s0)] [(.int v11_2_s0), (.ref w3)])) rfl (by rw [hml]; rfl) (Steps.refl _) (argsL := [(.int v11_2_s0)]) (rest := []) (lenOf pd_0 rfl) rfl (by show 2 * 0 + _ ≤ _; exact Nat.le_of_eq rfl) (hb hby at_157) (fun _ _ => ⟨rfl, e136_2015, (by decide : 0 + 0 ≤ _), (by decide : 0 + 0 ≤ _)⟩)
            dsimp only [Pt.U, Pt.locs, Pt.cells, Pt.slots] at X2016 l2016 y2016 z2016 st2016 hQ2016
            subst l2016 y2016 z2016
            obtain ⟨rfl, rfl, e2016⟩ := hQ2016
            try rw [List.append_nil] at X2016
            refine own_jump (f' := (mkF m 160 #[.val (.int i1), .val (.int i2), .val (.int i3), .val (.int ((i1 &&& (2147483647 : Int32)) % (7 : Int32))), .val (.int v11_2_s0), .val (.ref w3), .val (.int (2 : Int32)), .val (.int (5 : Int32)), .val (.int v136_2015_s0)] [(.int (own_sup v11_2_s0 (2 : Int32) (5 : Int32)))])) st2016 ?_
            refine own_step (f' := (mkF m 162 #[.val (.int i1), .val (.int i2), .val (.int i3), .val (.int ((i1 &&& (2147483647 : Int32)) % (7 : Int32))), .val (.int v11_2_s0), .val (.ref w3), .val (.int (2 : Int32)), .val (.int (5 : Int32)), .val (.int v136_2015_s0)] [(.int v136_2015_s0), (.int (own_sup v11_2_s0 (2 : Int32) (5 : Int32)))])) (fun _ k => XS.iload X2016.here hx rfl (hb hby at_160) rfl k) ?_
            have hf162_2017 : (own_sup v11_2_s0 (2 : Int32) (5 : Int32)) = v136_2015_s0 := hv136_2015_0.symm
            refine own_step (f' := (mkF m 165 #[.val (.int i1), .val (.int i2), .val (.int i3), .val (.int ((i1 &&& (2147483647 : Int32)) % (7 : Int32))), .val (.int v11_2_s0), .val (.ref w3), .val (.int (2 : Int32)), .val (.int (5 : Int32)), .val (.int v136_2015_s0)] [])) (fun _ k => XS.icmpNo X2016.here hx rfl (hb hby at_162) rfl (teq hf162_2017).2 k) ?_
            refine own_step (f' := (mkF m 166 #[.val (.int i1), .val (.int i2), .val (.int i3), .val (.int ((i1 &&& (2147483647 : Int32)) % (7 : Int32))), .val (.int v11_2_s0), .val (.ref w3), .val (.int (2 : Int32)), .val (.int (5 : Int32)), .val (.int v136_2015_s0)] [(.int (1 : Int32))])) (fun _ k => XS.iconst X2016.here hx rfl (hb hby at_165) k) ?_
            refine own_step (f' := (mkF m 170 #[.val (.int i1), .val (.int i2), .val (.int i3), .val (.int ((i1 &&& (2147483647 : Int32)) % (7 : Int32))), .val (.int v11_2_s0), .val (.ref w3), .val (.int (2 : Int32)), .val (.int (5 : Int32)), .val (.int v136_2015_s0)] [(.int (1 : Int32))])) (fun _ k => XS.goto X2016.here hx rfl (pc0 := 166) (pc' := 170) rfl (hb hby at_166) (by decide) (by decide) k) ?_
            refine own_out (v := some (.int (1 : Int32))) X2016 hlk (fun h => by rw [Bd.returns] at h; cases h) (fun fs hr => retN X2016 hx (t := .boolean) Bd.returns (by simp) (hb hby at_170) hr) (by decide) (by decide) ?_
            exact ⟨rfl, N0⟩
          by_cases hc136_2013 : v11_2_s0 < (2 : Int32)
          · refine own_step (f' := (mkF m 150 #[.val (.int i1), .val (.int i2), .val (.int i3), .val (.int ((i1 &&& (2147483647 : Int32)) % (7 : Int32))), .val (.int v11_2_s0), .val (.ref w3), .val (.int (2 : Int32)), .val (.int (5 : Int32)), .unset] [])) (fun _ k => XS.icmpYes X2012.here hx rfl (pc0 := 136) (pc' := 150) rfl (hb hby at_136) rfl (tlt hc136_2013).2.2.1 (by decide) (by decide) k) ?_
            refine own_step (f' := (mkF m 151 #[.val (.int i1), .val (.int i2), .val (.int i3), .val (.int ((i1 &&& (2147483647 : Int32)) % (7 : Int32))), .val (.int v11_2_s0), .val (.ref w3), .val (.int (2 : Int32)), .val (.int (5 : Int32)), .unset] [(.int (0 : Int32))])) (fun _ k => XS.iconst X2012.here hx rfl (hb hby at_150) k) ?_
            exact J136_2015 _ (0 : Int32) X2012 e2012 (by rw [if_pos hc136_2013])
          · refine own_step (f' := (mkF m 139 #[.val (.int i1), .val (.int i2), .val (.int i3), .val (.int ((i1 &&& (2147483647 : Int32)) % (7 : Int32))), .val (.int v11_2_s0), .val (.ref w3), .val (.int (2 : Int32)), .val (.int (5 : Int32)), .unset] [])) (fun _ k => XS.icmpNo X2012.here hx rfl (hb hby at_136) rfl (flt hc136_2013).2.2.1 k) ?_
            refine own_step (f' := (mkF m 141 #[.val (.int i1), .val (.int i2), .val (.int i3), .val (.int ((i1 &&& (2147483647 : Int32)) % (7 : Int32))), .val (.int v11_2_s0), .val (.ref w3), .val (.int (2 : Int32)), .val (.int (5 : Int32)), .unset] [(.int v11_2_s0)])) (fun _ k => XS.iload X2012.here hx rfl (hb hby at_139) rfl k) ?_
            refine own_step (f' := (mkF m 143 #[.val (.int i1), .val (.int i2), .val (.int i3), .val (.int ((i1 &&& (2147483647 : Int32)) % (7 : Int32))), .val (.int v11_2_s0), .val (.ref w3), .val (.int (2 : Int32)), .val (.int (5 : Int32)), .unset] [(.int (5 : Int32)), (.int v11_2_s0)])) (fun _ k => XS.iload X2012.here hx rfl (hb hby at_141) rfl k) ?_
            by_cases hc143_3014 : (5 : Int32) < v11_2_s0
            · refine own_step (f' := (mkF m 150 #[.val (.int i1), .val (.int i2), .val (.int i3), .val (.int ((i1 &&& (2147483647 : Int32)) % (7 : Int32))), .val (.int v11_2_s0), .val (.ref w3), .val (.int (2 : Int32)), .val (.int (5 : Int32)), .unset] [])) (fun _ k => XS.icmpYes X2012.here hx rfl (pc0 := 143) (pc' := 150) rfl (hb hby at_143) rfl (tlt hc143_3014).2.2.1 (by decide) (by decide) k) ?_
              refine own_step (f' := (mkF m 151 #[.val (.int i1), .val (.int i2), .val (.int i3), .val (.int ((i1 &&& (2147483647 : Int32)) % (7 : Int32))), .val (.int v11_2_s0), .val (.ref w3), .val (.int (2 : Int32)), .val (.int (5 : Int32)), .unset] [(.int (0 : Int32))])) (fun _ k => XS.iconst X2012.here hx rfl (hb hby at_150) k) ?_
              exact J136_2015 _ (0 : Int32) X2012 e2012 (by rw [if_neg hc136_2013, if_pos hc143_3014])
            · refine own_step (f' := (mkF m 146 #[.val (.int i1), .val (.int i2), .val (.int i3), .val (.int ((i1 &&& (2147483647 : Int32)) % (7 : Int32))), .val (.int v11_2_s0), .val (.ref w3), .val (.int (2 : Int32)), .val (.int (5 : Int32)), .unset] [])) (fun _ k => XS.icmpNo X2012.here hx rfl (hb hby at_143) rfl (flt hc143_3014).2.2.1 k) ?_
              refine own_step (f' := (mkF m 147 #[.val (.int i1), .val (.int i2), .val (.int i3), .val (.int ((i1 &&& (2147483647 : Int32)) % (7 : Int32))), .val (.int v11_2_s0), .val (.ref w3), .val (.int (2 : Int32)), .val (.int (5 : Int32)), .unset] [(.int (1 : Int32))])) (fun _ k => XS.iconst X2012.here hx rfl (hb hby at_146) k) ?_
              refine own_step (f' := (mkF m 151 #[.val (.int i1), .val (.int i2), .val (.int i3), .val (.int ((i1 &&& (2147483647 : Int32)) % (7 : Int32))), .val (.int v11_2_s0), .val (.ref w3), .val (.int (2 : Int32)), .val (.int (5 : Int32)), .unset] [(.int (1 : Int32))])) (fun _ k => XS.goto X2012.here hx rfl (pc0 := 147) (pc' := 151) rfl (hb hby at_147) (by decide) (by decide) k) ?_
              exact J136_2015 _ (1 : Int32) X2012 e2012 (by rw [if_neg hc136_2013, if_neg hc143_3014])
        · refine own_step (f' := (mkF m 76 #[.val (.int i1), .val (.int i2), .val (.int i3), .val (.int ((i1 &&& (2147483647 : Int32)) % (7 : Int32))), .val (.int v11_2_s0), .unset, .val (.int (2 : Int32)), .unset, .unset] [])) (fun _ k => XS.icmpYes X11_2.here hx rfl (pc0 := 62) (pc' := 76) rfl (hb hby at_62) rfl (feq hc62_2011).2 (by decide) (by decide) k) ?_
          refine own_step (f' := (mkF m 77 #[.val (.int i1), .val (.int i2), .val (.int i3), .val (.int ((i1 &&& (2147483647 : Int32)) % (7 : Int32))), .val (.int v11_2_s0), .unset, .val (.int (2 : Int32)), .unset, .unset] [(.int ((i1 &&& (2147483647 : Int32)) % (7 : Int32)))])) (fun _ k => XS.iloadN X11_2.here hx rfl (hb hby at_76) rfl k) ?_
          refine own_step (f' := (mkF m 78 #[.val (.int i1), .val (.int i2), .val (.int i3), .val (.int ((i1 &&& (2147483647 : Int32)) % (7 : Int32))), .val (.int v11_2_s0), .unset, .val (.int (2 : Int32)), .unset, .unset] [(.int (3 : Int32)), (.int ((i1 &&& (2147483647 : Int32)) % (7 : Int32)))])) (fun _ k => XS.iconst X11_2.here hx rfl (hb hby at_77) k) ?_
          by_cases hc78_3015 : ((i1 &&& (2147483647 : Int32)) % (7 : Int32)) = (3 : Int32)
          · refine own_step (f' := (mkF m 81 #[.val (.int i1), .val (.int i2), .val (.int i3), .val (.int ((i1 &&& (2147483647 : Int32)) % (7 : Int32))), .val (.int v11_2_s0), .unset, .val (.int (2 : Int32)), .unset, .unset] [])) (fun _ k => XS.icmpNo X11_2.here hx rfl (hb hby at_78) rfl (teq hc78_3015).2 k) ?_
            obtain ⟨T3016, X3016, e3016, st3016⟩ := getS2 X11_2 hx hZ hown (host := "") (Or.inl (hw _ (List.mem_of_getElem? (i := 15) rfl))) Via.refl e11_2 S_ONE_BIT (g := (mkF m 81 #[.val (.int i1), .val (.int i2), .val (.int i3), .val (.int ((i1 &&& (2147483647 : Int32)) % (7 : Int32))), .val (.int v11_2_s0), .unset, .val (.int (2 : Int32)), .unset, .unset] [])) rfl (hb hby at_81)
            refine own_step (f' := (mkF m 84 #[.val (.int i1), .val (.int i2), .val (.int i3), .val (.int ((i1 &&& (2147483647 : Int32)) % (7 : Int32))), .val (.int v11_2_s0), .unset, .val (.int (2 : Int32)), .unset, .unset] [(.ref w4)])) st3016 ?_
            refine own_step (f' := (mkF m 86 #[.val (.int i1), .val (.int i2), .val (.int i3), .val (.int ((i1 &&& (2147483647 : Int32)) % (7 : Int32))), .val (.int v11_2_s0), .val (.ref w4), .val (.int (2 : Int32)), .unset, .unset] [])) (fun _ k => XS.astore X3016.here hx rfl (hb hby at_84) rfl rfl (l' := #[.val (.int i1), .val (.int i2), .val (.int i3), .val (.int ((i1 &&& (2147483647 : Int32)) % (7 : Int32))), .val (.int v11_2_s0), .val (.ref w4), .val (.int (2 : Int32)), .unset, .unset]) rfl k) ?_
            refine own_step (f' := (mkF m 87 #[.val (.int i1), .val (.int i2), .val (.int i3), .val (.int ((i1 &&& (2147483647 : Int32)) % (7 : Int32))), .val (.int v11_2_s0), .val (.ref w4), .val (.int (2 : Int32)), .unset, .unset] [(.int (5 : Int32))])) (fun _ k => XS.iconst X3016.here hx rfl (hb hby at_86) k) ?_
            refine own_step (f' := (mkF m 89 #[.val (.int i1), .val (.int i2), .val (.int i3), .val (.int ((i1 &&& (2147483647 : Int32)) % (7 : Int32))), .val (.int v11_2_s0), .val (.ref w4), .val (.int (2 : Int32)), .val (.int (5 : Int32)), .unset] [])) (fun _ k => XS.istore X3016.here hx rfl (hb hby at_87) rfl (l' := #[.val (.int i1), .val (.int i2), .val (.int i3), .val (.int ((i1 &&& (2147483647 : Int32)) % (7 : Int32))), .val (.int v11_2_s0), .val (.ref w4), .val (.int (2 : Int32)), .val (.int (5 : Int32)), .unset]) rfl k) ?_
            refine own_step (f' := (mkF m 132 #[.val (.int i1), .val (.int i2), .val (.int i3), .val (.int ((i1 &&& (2147483647 : Int32)) % (7 : Int32))), .val (.int v11_2_s0), .val (.ref w4), .val (.int (2 : Int32)), .val (.int (5 : Int32)), .unset] [])) (fun _ k => XS.goto X3016.here hx rfl (pc0 := 89) (pc' := 132) rfl (hb hby at_89) (by decide) (by decide) k) ?_
            refine own_step (f' := (mkF m 134 #[.val (.int i1), .val (.int i2), .val (.int i3), .val (.int ((i1 &&& (2147483647 : Int32)) % (7 : Int32))), .val (.int v11_2_s0), .val (.ref w4), .val (.int (2 : Int32)), .val (.int (5 : Int32)), .unset] [(.int (2 : Int32))])) (fun _ k => XS.iload X3016.here hx rfl (hb hby at_132) rfl k) ?_
            refine own_step (f' := (mkF m 136 #[.val (.int i1), .val (.int i2), .val (.int i3), .val (.int ((i1 &&& (2147483647 : Int32)) % (7 : Int32))), .val (.int v11_2_s0), .val (.ref w4), .val (.int (2 : Int32)), .val (.int (5 : Int32)), .unset] [(.int v11_2_s0), (.int (2 : Int32))])) (fun _ k => XS.iload X3016.here hx rfl (hb hby at_134) rfl k) ?_
            have J136_3019 : ∀ (T136_3019 : State) (v136_3019_s0 : Int32), Stand p l e room_1 s m #[(.int i1), (.int i2), (.int i3)] below meth c T136_3019 [] 0 0 → T136_3019.heap = h0 → v136_3019_s0 = (if v11_2_s0 < (2 : Int32) then (0 : Int32) else (if (5 : Int32) < v11_2_s0 then (0 : Int32) else (1 : Int32))) → own_Goes p e below s (Q0 Z i1 i2 i3 w1 w2 w4 w6 w3 w5 w7 h0 n0) room_1.cells room_1.slots T136_3019 (mkF m 151 #[.val (.int i1), .val (.int i2), .val (.int i3), .val (.int ((i1 &&& (2147483647 : Int32)) % (7 : Int32))), .val (.int v11_2_s0), .val (.ref w4), .val (.int (2 : Int32)), .val (.int (5 : Int32)), .unset] [(.int v136_3019_s0)]) := by
              intro T136_3019 v136_3019_s0 X136_3019 e136_3019 hv136_3019_0
              refine own_step (f' := (mkF m 153 #[.val (.int i1), .val (.int i2), .val (.int i3), .val (.int ((i1 &&& (2147483647 : Int32)) % (7 : Int32))), .val (.int v11_2_s0), .val (.ref w4), .val (.int (2 : Int32)), .val (.int (5 : Int32)), .val (.int v136_3019_s0)] [])) (fun _ k => XS.istore X136_3019.here hx rfl (hb hby at_151) rfl (l' := #[.val (.int i1), .val (.int i2), .val (.int i3), .val (.int ((i1 &&& (2147483647 : Int32)) % (7 : Int32))), .val (.int v11_2_s0), .val (.ref w4), .val (.int (2 : Int32)), .val (.int (5 : Int32)), .val (.int v136_3019_s0)]) rfl k) ?_
              refine own_step (f' := (mkF m 155 #[.val (.int i1), .val (.int i2), .val (.int i3), .val (.int ((i1 &&& (2147483647 : Int32)) % (7 : Int32))), .val (.int v11_2_s0), .val (.ref w4), .val (.int (2 : Int32)), .val (.int (5 : Int32)), .val (.int v136_3019_s0)] [(.ref w4)])) (fun _ k => XS.aload X136_3019.here hx rfl (hb hby at_153) rfl rfl k) ?_
              refine own_step (f' := (mkF m 157 #[.val (.int i1), .val (.int i2), .val (.int i3), .val (.int ((i1 &&& (2147483647 : Int32)) % (7 : Int32))), .val (.int v11_2_s0), .val (.ref w4), .val (.int (2 : Int32)), .val (.int (5 : Int32)), .val (.int v136_3019_s0)] [(.int v11_2_s0), (.ref w4)])) (fun _ k => XS.iload X136_3019.here hx rfl (hb hby at_155) rfl k) ?_
              have Zq3020 : n0 ≤ h0.size := Z0
              obtain ⟨cq3020, kq3020, q3020a, q3020b, q3020c⟩ := isOf hZ e136_3019 E_w4
              obtain ⟨_, _, ⟨T3020, L3020, k3020, n3020⟩, -, X3020, ⟨Lc3020, hQ3020, l3020, y3020, z3020⟩, st3020⟩ := X136_3019.virtualBack hx (y := (⟨"com/example/fair_mutex/fairmutex/Catalog", "supports", "(I)Z"⟩ : MethodName)) (z := (⟨"com/example/fair_mutex/fairmutex/Catalog", "supports", "(I)Z"⟩ : MethodName)) hown (mvT hZ (hw _ (List.mem_of_getElem? (i := 4) rfl))) (mvT hZ (hw _ (List.mem_of_getElem? (i := 5) rfl))) (notFace_of_selects (args := #[]) (mvT hZ (hw _ (List.mem_of_getElem? (i := 7) rfl)))) (mvT hZ (hw _ (List.mem_of_getElem? (i := 7) rfl))) (mvT hZ (hw _ (List.mem_of_getElem? (i := 6) rfl))) (by decide) (backOf (W := 0) (rm1 l Z a0 hw [] w4 v11_2_s0 (2 : Int32) (5 : Int32) h0 n0 Zq3020 F_minThreads_w4 F_maxThreads_w4) hZ (hw _ (List.mem_of_getElem? (i := 8) rfl)) (hw _ (List.mem_of_getElem? (i := 2) rfl)) (by decide) (by decide)) q3020a q3020c (g := (mkF m 157 #[.val (.int i1), .val (.int i2), .val (.int i3), .val (.int ((i1 &&& (2147483647 : Int32)) % (7 : Int32))), .val (.int v11_2_s0), .val (.ref w4), .val (.int (2 : Int32)), .val (.int (5 : Int32)), .val (.int v136_3019_s0)] [(.int v11_2_s0), (.ref w4)])) rfl (by rw [hml]; rfl) (Steps.refl _) (argsL := [(.int v11_2_s0)]) (rest := []) (lenOf pd_0 rfl) rfl (by show 2 * 0 + _ ≤ _; exact Nat.le_of_eq rfl) (hb hby at_157) (fun _ _ => ⟨rfl, e136_3019, (by decide : 0 + 0 ≤ _), (by decide : 0 + 0 ≤ _)⟩)
              dsimp only [Pt.U, Pt.locs, Pt.cells, Pt.slots] at X3020 l3020 y3020 z3020 st3020 hQ3020
              subst l3020 y3020 z3020
              obtain ⟨rfl, rfl, e3020⟩ := hQ3020
              try rw [List.append_nil] at X3020
              refine own_jump (f' := (mkF m 160 #[.val (.int i1), .val (.int i2), .val (.int i3), .val (.int ((i1 &&& (2147483647 : Int32)) % (7 : Int32))), .val (.int v11_2_s0), .val (.ref w4), .val (.int (2 : Int32)), .val (.int (5 : Int32)), .val (.int v136_3019_s0)] [(.int (own_sup v11_2_s0 (2 : Int32) (5 : Int32)))])) st3020 ?_
              refine own_step (f' := (mkF m 162 #[.val (.int i1), .val (.int i2), .val (.int i3), .val (.int ((i1 &&& (2147483647 : Int32)) % (7 : Int32))), .val (.int v11_2_s0), .val (.ref w4), .val (.int (2 : Int32)), .val (.int (5 : Int32)), .val (.int v136_3019_s0)] [(.int v136_3019_s0), (.int (own_sup v11_2_s0 (2 : Int32) (5 : Int32)))])) (fun _ k => XS.iload X3020.here hx rfl (hb hby at_160) rfl k) ?_
              have hf162_3021 : (own_sup v11_2_s0 (2 : Int32) (5 : Int32)) = v136_3019_s0 := hv136_3019_0.symm
              refine own_step (f' := (mkF m 165 #[.val (.int i1), .val (.int i2), .val (.int i3), .val (.int ((i1 &&& (2147483647 : Int32)) % (7 : Int32))), .val (.int v11_2_s0), .val (.ref w4), .val (.int (2 : Int32)), .val (.int (5 : Int32)), .val (.int v136_3019_s0)] [])) (fun _ k => XS.icmpNo X3020.here hx rfl (hb hby at_162) rfl (teq hf162_3021).2 k) ?_
              refine own_step (f' := (mkF m 166 #[.val (.int i1), .val (.int i2), .val (.int i3), .val (.int ((i1 &&& (2147483647 : Int32)) % (7 : Int32))), .val (.int v11_2_s0), .val (.ref w4), .val (.int (2 : Int32)), .val (.int (5 : Int32)), .val (.int v136_3019_s0)] [(.int (1 : Int32))])) (fun _ k => XS.iconst X3020.here hx rfl (hb hby at_165) k) ?_
              refine own_step (f' := (mkF m 170 #[.val (.int i1), .val (.int i2), .val (.int i3), .val (.int ((i1 &&& (2147483647 : Int32)) % (7 : Int32))), .val (.int v11_2_s0), .val (.ref w4), .val (.int (2 : Int32)), .val (.int (5 : Int32)), .val (.int v136_3019_s0)] [(.int (1 : Int32))])) (fun _ k => XS.goto X3020.here hx rfl (pc0 := 166) (pc' := 170) rfl (hb hby at_166) (by decide) (by decide) k) ?_
              refine own_out (v := some (.int (1 : Int32))) X3020 hlk (fun h => by rw [Bd.returns] at h; cases h) (fun fs hr => retN X3020 hx (t := .boolean) Bd.returns (by simp) (hb hby at_170) hr) (by decide) (by decide) ?_
              exact ⟨rfl, N0⟩
            by_cases hc136_3017 : v11_2_s0 < (2 : Int32)
            · refine own_step (f' := (mkF m 150 #[.val (.int i1), .val (.int i2), .val (.int i3), .val (.int ((i1 &&& (2147483647 : Int32)) % (7 : Int32))), .val (.int v11_2_s0), .val (.ref w4), .val (.int (2 : Int32)), .val (.int (5 : Int32)), .unset] [])) (fun _ k => XS.icmpYes X3016.here hx rfl (pc0 := 136) (pc' := 150) rfl (hb hby at_136) rfl (tlt hc136_3017).2.2.1 (by decide) (by decide) k) ?_
              refine own_step (f' := (mkF m 151 #[.val (.int i1), .val (.int i2), .val (.int i3), .val (.int ((i1 &&& (2147483647 : Int32)) % (7 : Int32))), .val (.int v11_2_s0), .val (.ref w4), .val (.int (2 : Int32)), .val (.int (5 : Int32)), .unset] [(.int (0 : Int32))])) (fun _ k => XS.iconst X3016.here hx rfl (hb hby at_150) k) ?_
              exact J136_3019 _ (0 : Int32) X3016 e3016 (by rw [if_pos hc136_3017])
            · refine own_step (f' := (mkF m 139 #[.val (.int i1), .val (.int i2), .val (.int i3), .val (.int ((i1 &&& (2147483647 : Int32)) % (7 : Int32))), .val (.int v11_2_s0), .val (.ref w4), .val (.int (2 : Int32)), .val (.int (5 : Int32)), .unset] [])) (fun _ k => XS.icmpNo X3016.here hx rfl (hb hby at_136) rfl (flt hc136_3017).2.2.1 k) ?_
              refine own_step (f' := (mkF m 141 #[.val (.int i1), .val (.int i2), .val (.int i3), .val (.int ((i1 &&& (2147483647 : Int32)) % (7 : Int32))), .val (.int v11_2_s0), .val (.ref w4), .val (.int (2 : Int32)), .val (.int (5 : Int32)), .unset] [(.int v11_2_s0)])) (fun _ k => XS.iload X3016.here hx rfl (hb hby at_139) rfl k) ?_
              refine own_step (f' := (mkF m 143 #[.val (.int i1), .val (.int i2), .val (.int i3), .val (.int ((i1 &&& (2147483647 : Int32)) % (7 : Int32))), .val (.int v11_2_s0), .val (.ref w4), .val (.int (2 : Int32)), .val (.int (5 : Int32)), .unset] [(.int (5 : Int32)), (.int v11_2_s0)])) (fun _ k => XS.iload X3016.here hx rfl (hb hby at_141) rfl k) ?_
              by_cases hc143_4018 : (5 : Int32) < v11_2_s0
              · refine own_step (f' := (mkF m 150 #[.val (.int i1), .val (.int i2), .val (.int i3), .val (.int ((i1 &&& (2147483647 : Int32)) % (7 : Int32))), .val (.int v11_2_s0), .val (.ref w4), .val (.int (2 : Int32)), .val (.int (5 : Int32)), .unset] [])) (fun _ k => XS.icmpYes X3016.here hx rfl (pc0 := 143) (pc' := 150) rfl (hb hby at_143) rfl (tlt hc143_4018).2.2.1 (by decide) (by decide) k) ?_
                refine own_step (f' := (mkF m 151 #[.val (.int i1), .val (.int i2), .val (.int i3), .val (.int ((i1 &&& (2147483647 : Int32)) % (7 : Int32))), .val (.int v11_2_s0), .val (.ref w4), .val (.int (2 : Int32)), .val (.int (5 : Int32)), .unset] [(.int (0 : Int32))])) (fun _ k => XS.iconst X3016.here hx rfl (hb hby at_150) k) ?_
                exact J136_3019 _ (0 : Int32) X3016 e3016 (by rw [if_neg hc136_3017, if_pos hc143_4018])
              · refine own_step (f' := (mkF m 146 #[.val (.int i1), .val (.int i2), .val (.int i3), .val (.int ((i1 &&& (2147483647 : Int32)) % (7 : Int32))), .val (.int v11_2_s0), .val (.ref w4), .val (.int (2 : Int32)), .val (.int (5 : Int32)), .unset] [])) (fun _ k => XS.icmpNo X3016.here hx rfl (hb hby at_143) rfl (flt hc143_4018).2.2.1 k) ?_
                refine own_step (f' := (mkF m 147 #[.val (.int i1), .val (.int i2), .val (.int i3), .val (.int ((i1 &&& (2147483647 : Int32)) % (7 : Int32))), .val (.int v11_2_s0), .val (.ref w4), .val (.int (2 : Int32)), .val (.int (5 : Int32)), .unset] [(.int (1 : Int32))])) (fun _ k => XS.iconst X3016.here hx rfl (hb hby at_146) k) ?_
                refine own_step (f' := (mkF m 151 #[.val (.int i1), .val (.int i2), .val (.int i3), .val (.int ((i1 &&& (2147483647 : Int32)) % (7 : Int32))), .val (.int v11_2_s0), .val (.ref w4), .val (.int (2 : Int32)), .val (.int (5 : Int32)), .unset] [(.int (1 : Int32))])) (fun _ k => XS.goto X3016.here hx rfl (pc0 := 147) (pc' := 151) rfl (hb hby at_147) (by decide) (by decide) k) ?_
                exact J136_3019 _ (1 : Int32) X3016 e3016 (by rw [if_neg hc136_3017, if_neg hc143_4018])
          · refine own_step (f' := (mkF m 92 #[.val (.int i1), .val (.int i2), .val (.int i3), .val (.int ((i1 &&& (2147483647 : Int32)) % (7 : Int32))), .val (.int v11_2_s0), .unset, .val (.int (2 : Int32)), .unset, .unset] [])) (fun _ k => XS.icmpYes X11_2.here hx rfl (pc0 := 78) (pc' := 92) rfl (hb hby at_78) rfl (feq hc78_3015).2 (by decide) (by decide) k) ?_
            refine own_step (f' := (mkF m 93 #[.val (.int i1), .val (.int i2), .val (.int i3), .val (.int ((i1 &&& (2147483647 : Int32)) % (7 : Int32))), .val (.int v11_2_s0), .unset, .val (.int (2 : Int32)), .unset, .unset] [(.int ((i1 &&& (2147483647 : Int32)) % (7 : Int32)))])) (fun _ k => XS.iloadN X11_2.here hx rfl (hb hby at_92) rfl k) ?_
            refine own_step (f' := (mkF m 94 #[.val (.int i1), .val (.int i2), .val (.int i3), .val (.int ((i1 &&& (2147483647 : Int32)) % (7 : Int32))), .val (.int v11_2_s0), .unset, .val (.int (2 : Int32)), .unset, .unset] [(.int (4 : Int32)), (.int ((i1 &&& (2147483647 : Int32)) % (7 : Int32)))])) (fun _ k => XS.iconst X11_2.here hx rfl (hb hby at_93) k) ?_
            by_cases hc94_4019 : ((i1 &&& (2147483647 : Int32)) % (7 : Int32)) = (4 : Int32)
            · refine own_step (f' := (mkF m 97 #[.val (.int i1), .val (.int i2), .val (.int i3), .val (.int ((i1 &&& (2147483647 : Int32)) % (7 : Int32))), .val (.int v11_2_s0), .unset, .val (.int (2 : Int32)), .unset, .unset] [])) (fun _ k => XS.icmpNo X11_2.here hx rfl (hb hby at_94) rfl (teq hc94_4019).2 k) ?_
              obtain ⟨T4020, X4020, e4020, st4020⟩ := getS2 X11_2 hx hZ hown (host := "") (Or.inl (hw _ (List.mem_of_getElem? (i := 21) rfl))) Via.refl e11_2 S_THREE_BIT (g := (mkF m 97 #[.val (.int i1), .val (.int i2), .val (.int i3), .val (.int ((i1 &&& (2147483647 : Int32)) % (7 : Int32))), .val (.int v11_2_s0), .unset, .val (.int (2 : Int32)), .unset, .unset] [])) rfl (hb hby at_97)
              refine own_step (f' := (mkF m 100 #[.val (.int i1), .val (.int i2), .val (.int i3), .val (.int ((i1 &&& (2147483647 : Int32)) % (7 : Int32))), .val (.int v11_2_s0), .unset, .val (.int (2 : Int32)), .unset, .unset] [(.ref w5)])) st4020 ?_
              refine own_step (f' := (mkF m 102 #[.val (.int i1), .val (.int i2), .val (.int i3), .val (.int ((i1 &&& (2147483647 : Int32)) % (7 : Int32))), .val (.int v11_2_s0), .val (.ref w5), .val (.int (2 : Int32)), .unset, .unset] [])) (fun _ k => XS.astore X4020.here hx rfl (hb hby at_100) rfl rfl (l' := #[.val (.int i1), .val (.int i2), .val (.int i3), .val (.int ((i1 &&& (2147483647 : Int32)) % (7 : Int32))), .val (.int v11_2_s0), .val (.ref w5), .val (.int (2 : Int32)), .unset, .unset]) rfl k) ?_
              refine own_step (f' := (mkF m 103 #[.val (.int i1), .val (.int i2), .val (.int i3), .val (.int ((i1 &&& (2147483647 : Int32)) % (7 : Int32))), .val (.int v11_2_s0), .val (.ref w5), .val (.int (2 : Int32)), .unset, .unset] [(.int (3 : Int32))])) (fun _ k => XS.iconst X4020.here hx rfl (hb hby at_102) k) ?_
              refine own_step (f' := (mkF m 105 #[.val (.int i1), .val (.int i2), .val (.int i3), .val (.int ((i1 &&& (2147483647 : Int32)) % (7 : Int32))), .val (.int v11_2_s0), .val (.ref w5), .val (.int (2 : Int32)), .val (.int (3 : Int32)), .unset] [])) (fun _ k => XS.istore X4020.here hx rfl (hb hby at_103) rfl (l' := #[.val (.int i1), .val (.int i2), .val (.int i3), .val (.int ((i1 &&& (2147483647 : Int32)) % (7 : Int32))), .val (.int v11_2_s0), .val (.ref w5), .val (.int (2 : Int32)), .val (.int (3 : Int32)), .unset]) rfl k) ?_
              refine own_step (f' := (mkF m 132 #[.val (.int i1), .val (.int i2), .val (.int i3), .val (.int ((i1 &&& (2147483647 : Int32)) % (7 : Int32))), .val (.int v11_2_s0), .val (.ref w5), .val (.int (2 : Int32)), .val (.int (3 : Int32)), .unset] [])) (fun _ k => XS.goto X4020.here hx rfl (pc0 := 105) (pc' := 132) rfl (hb hby at_105) (by decide) (by decide) k) ?_
              refine own_step (f' := (mkF m 134 #[.val (.int i1), .val (.int i2), .val (.int i3), .val (.int ((i1 &&& (2147483647 : Int32)) % (7 : Int32))), .val (.int v11_2_s0), .val (.ref w5), .val (.int (2 : Int32)), .val (.int (3 : Int32)), .unset] [(.int (2 : Int32))])) (fun _ k => XS.iload X4020.here hx rfl (hb hby at_132) rfl k) ?_
              refine own_step (f' := (mkF m 136 #[.val (.int i1), .val (.int i2), .val (.int i3), .val (.int ((i1 &&& (2147483647 : Int32)) % (7 : Int32))), .val (.int v11_2_s0), .val (.ref w5), .val (.int (2 : Int32)), .val (.int (3 : Int32)), .unset] [(.int v11_2_s0), (.int (2 : Int32))])) (fun _ k => XS.iload X4020.here hx rfl (hb hby at_134) rfl k) ?_
              have J136_4023 : ∀ (T136_4023 : State) (v136_4023_s0 : Int32), Stand p l e room_1 s m #[(.int i1), (.int i2), (.int i3)] below meth c T136_4023 [] 0 0 → T136_4023.heap = h0 → v136_4023_s0 = (if v11_2_s0 < (2 : Int32) then (0 : Int32) else (if (3 : Int32) < v11_2_s0 then (0 : Int32) else (1 : Int32))) → own_Goes p e below s (Q0 Z i1 i2 i3 w1 w2 w4 w6 w3 w5 w7 h0 n0) room_1.cells room_1.slots T136_4023 (mkF m 151 #[.val (.int i1), .val (.int i2), .val (.int i3), .val (.int ((i1 &&& (2147483647 : Int32)) % (7 : Int32))), .val (.int v11_2_s0), .val (.ref w5), .val (.int (2 : Int32)), .val (.int (3 : Int32)), .unset] [(.int v136_4023_s0)]) := by
                intro T136_4023 v136_4023_s0 X136_4023 e136_4023 hv136_4023_0
                refine own_step (f' := (mkF m 153 #[.val (.int i1), .val (.int i2), .val (.int i3), .val (.int ((i1 &&& (2147483647 : Int32)) % (7 : Int32))), .val (.int v11_2_s0), .val (.ref w5), .val (.int (2 : Int32)), .val (.int (3 : Int32)), .val (.int v136_4023_s0)] [])) (fun _ k => XS.istore X136_4023.here hx rfl (hb hby at_151) rfl (l' := #[.val (.int i1), .val (.int i2), .val (.int i3), .val (.int ((i1 &&& (2147483647 : Int32)) % (7 : Int32))), .val (.int v11_2_s0), .val (.ref w5), .val (.int (2 : Int32)), .val (.int (3 : Int32)), .val (.int v136_4023_s0)]) rfl k) ?_
                refine own_step (f' := (mkF m 155 #[.val (.int i1), .val (.int i2), .val (.int i3), .val (.int ((i1 &&& (2147483647 : Int32)) % (7 : Int32))), .val (.int v11_2_s0), .val (.ref w5), .val (.int (2 : Int32)), .val (.int (3 : Int32)), .val (.int v136_4023_s0)] [(.ref w5)])) (fun _ k => XS.aload X136_4023.here hx rfl (hb hby at_153) rfl rfl k) ?_
                refine own_step (f' := (mkF m 157 #[.val (.int i1), .val (.int i2), .val (.int i3), .val (.int ((i1 &&& (2147483647 : Int32)) % (7 : Int32))), .val (.int v11_2_s0), .val (.ref w5), .val (.int (2 : Int32)), .val (.int (3 : Int32)), .val (.int v136_4023_s0)] [(.int v11_2_s0), (.ref w5)])) (fun _ k => XS.iload X136_4023.here hx rfl (hb hby at_155) rfl k) ?_
                have Zq4024 : n0 ≤ h0.size := Z0
                obtain ⟨cq4024, kq4024, q4024a, q4024b, q4024c⟩ := isOf hZ e136_4023 E_w5
                obtain ⟨_, _, ⟨T4024, L4024, k4024, n4024⟩, -, X4024, ⟨Lc4024, hQ4024, l4024, y4024, z4024⟩, st4024⟩ := X136_4023.virtualBack hx (y := (⟨"com/example/fair_mutex/fairmutex/Catalog", "supports", "(I)Z"⟩ : MethodName)) (z := (⟨"com/example/fair_mutex/fairmutex/Catalog", "supports", "(I)Z"⟩ : MethodName)) hown (mvT hZ (hw _ (List.mem_of_getElem? (i := 4) rfl))) (mvT hZ (hw _ (List.mem_of_getElem? (i := 5) rfl))) (notFace_of_selects (args := #[]) (mvT hZ (hw _ (List.mem_of_getElem? (i := 7) rfl)))) (mvT hZ (hw _ (List.mem_of_getElem? (i := 7) rfl))) (mvT hZ (hw _ (List.mem_of_getElem? (i := 6) rfl))) (by decide) (backOf (W := 0) (rm1 l Z a0 hw [] w5 v11_2_s0 (2 : Int32) (3 : Int32) h0 n0 Zq4024 F_minThreads_w5 F_maxThreads_w5) hZ (hw _ (List.mem_of_getElem? (i := 8) rfl)) (hw _ (List.mem_of_getElem? (i := 2) rfl)) (by decide) (by decide)) q4024a q4024c (g := (mkF m 157 #[.val (.int i1), .val (.int i2), .val (.int i3), .val (.int ((i1 &&& (2147483647 : Int32)) % (7 : Int32))), .val (.int v11_2_s0), .val (.ref w5), .val (.int (2 : Int32)), .val (.int (3 : Int32)), .val (.int v136_4023_s0)] [(.int v11_2_s0), (.ref w5)])) rfl (by rw [hml]; rfl) (Steps.refl _) (argsL := [(.int v11_2_s0)]) (rest := []) (lenOf pd_0 rfl) rfl (by show 2 * 0 + _ ≤ _; exact Nat.le_of_eq rfl) (hb hby at_157) (fun _ _ => ⟨rfl, e136_4023, (by decide : 0 + 0 ≤ _), (by decide : 0 + 0 ≤ _)⟩)
                dsimp only [Pt.U, Pt.locs, Pt.cells, Pt.slots] at X4024 l4024 y4024 z4024 st4024 hQ4024
                subst l4024 y4024 z4024
                obtain ⟨rfl, rfl, e4024⟩ := hQ4024
                try rw [List.append_nil] at X4024
                refine own_jump (f' := (mkF m 160 #[.val (.int i1), .val (.int i2), .val (.int i3), .val (.int ((i1 &&& (2147483647 : Int32)) % (7 : Int32))), .val (.int v11_2_s0), .val (.ref w5), .val (.int (2 : Int32)), .val (.int (3 : Int32)), .val (.int v136_4023_s0)] [(.int (own_sup v11_2_s0 (2 : Int32) (3 : Int32)))])) st4024 ?_
                refine own_step (f' := (mkF m 162 #[.val (.int i1), .val (.int i2), .val (.int i3), .val (.int ((i1 &&& (2147483647 : Int32)) % (7 : Int32))), .val (.int v11_2_s0), .val (.ref w5), .val (.int (2 : Int32)), .val (.int (3 : Int32)), .val (.int v136_4023_s0)] [(.int v136_4023_s0), (.int (own_sup v11_2_s0 (2 : Int32) (3 : Int32)))])) (fun _ k => XS.iload X4024.here hx rfl (hb hby at_160) rfl k) ?_
                have hf162_4025 : (own_sup v11_2_s0 (2 : Int32) (3 : Int32)) = v136_4023_s0 := hv136_4023_0.symm
                refine own_step (f' := (mkF m 165 #[.val (.int i1), .val (.int i2), .val (.int i3), .val (.int ((i1 &&& (2147483647 : Int32)) % (7 : Int32))), .val (.int v11_2_s0), .val (.ref w5), .val (.int (2 : Int32)), .val (.int (3 : Int32)), .val (.int v136_4023_s0)] [])) (fun _ k => XS.icmpNo X4024.here hx rfl (hb hby at_162) rfl (teq hf162_4025).2 k) ?_
                refine own_step (f' := (mkF m 166 #[.val (.int i1), .val (.int i2), .val (.int i3), .val (.int ((i1 &&& (2147483647 : Int32)) % (7 : Int32))), .val (.int v11_2_s0), .val (.ref w5), .val (.int (2 : Int32)), .val (.int (3 : Int32)), .val (.int v136_4023_s0)] [(.int (1 : Int32))])) (fun _ k => XS.iconst X4024.here hx rfl (hb hby at_165) k) ?_
                refine own_step (f' := (mkF m 170 #[.val (.int i1), .val (.int i2), .val (.int i3), .val (.int ((i1 &&& (2147483647 : Int32)) % (7 : Int32))), .val (.int v11_2_s0), .val (.ref w5), .val (.int (2 : Int32)), .val (.int (3 : Int32)), .val (.int v136_4023_s0)] [(.int (1 : Int32))])) (fun _ k => XS.goto X4024.here hx rfl (pc0 := 166) (pc' := 170) rfl (hb hby at_166) (by decide) (by decide) k) ?_
                refine own_out (v := some (.int (1 : Int32))) X4024 hlk (fun h => by rw [Bd.returns] at h; cases h) (fun fs hr => retN X4024 hx (t := .boolean) Bd.returns (by simp) (hb hby at_170) hr) (by decide) (by decide) ?_
                exact ⟨rfl, N0⟩
              by_cases hc136_4021 : v11_2_s0 < (2 : Int32)
              · refine own_step (f' := (mkF m 150 #[.val (.int i1), .val (.int i2), .val (.int i3), .val (.int ((i1 &&& (2147483647 : Int32)) % (7 : Int32))), .val (.int v11_2_s0), .val (.ref w5), .val (.int (2 : Int32)), .val (.int (3 : Int32)), .unset] [])) (fun _ k => XS.icmpYes X4020.here hx rfl (pc0 := 136) (pc' := 150) rfl (hb hby at_136) rfl (tlt hc136_4021).2.2.1 (by decide) (by decide) k) ?_
                refine own_step (f' := (mkF m 151 #[.val (.int i1), .val (.int i2), .val (.int i3), .val (.int ((i1 &&& (2147483647 : Int32)) % (7 : Int32))), .val (.int v11_2_s0), .val (.ref w5), .val (.int (2 : Int32)), .val (.int (3 : Int32)), .unset] [(.int (0 : Int32))])) (fun _ k => XS.iconst X4020.here hx rfl (hb hby at_150) k) ?_
                exact J136_4023 _ (0 : Int32) X4020 e4020 (by rw [if_pos hc136_4021])
              · refine own_step (f' := (mkF m 139 #[.val (.int i1), .val (.int i2), .val (.int i3), .val (.int ((i1 &&& (2147483647 : Int32)) % (7 : Int32))), .val (.int v11_2_s0), .val (.ref w5), .val (.int (2 : Int32)), .val (.int (3 : Int32)), .unset] [])) (fun _ k => XS.icmpNo X4020.here hx rfl (hb hby at_136) rfl (flt hc136_4021).2.2.1 k) ?_
                refine own_step (f' := (mkF m 141 #[.val (.int i1), .val (.int i2), .val (.int i3), .val (.int ((i1 &&& (2147483647 : Int32)) % (7 : Int32))), .val (.int v11_2_s0), .val (.ref w5), .val (.int (2 : Int32)), .val (.int (3 : Int32)), .unset] [(.int v11_2_s0)])) (fun _ k => XS.iload X4020.here hx rfl (hb hby at_139) rfl k) ?_
                refine own_step (f' := (mkF m 143 #[.val (.int i1), .val (.int i2), .val (.int i3), .val (.int ((i1 &&& (2147483647 : Int32)) % (7 : Int32))), .val (.int v11_2_s0), .val (.ref w5), .val (.int (2 : Int32)), .val (.int (3 : Int32)), .unset] [(.int (3 : Int32)), (.int v11_2_s0)])) (fun _ k => XS.iload X4020.here hx rfl (hb hby at_141) rfl k) ?_
                by_cases hc143_5022 : (3 : Int32) < v11_2_s0
                · refine own_step (f' := (mkF m 150 #[.val (.int i1), .val (.int i2), .val (.int i3), .val (.int ((i1 &&& (2147483647 : Int32)) % (7 : Int32))), .val (.int v11_2_s0), .val (.ref w5), .val (.int (2 : Int32)), .val (.int (3 : Int32)), .unset] [])) (fun _ k => XS.icmpYes X4020.here hx rfl (pc0 := 143) (pc' := 150) rfl (hb hby at_143) rfl (tlt hc143_5022).2.2.1 (by decide) (by decide) k) ?_
                  refine own_step (f' := (mkF m 151 #[.val (.int i1), .val (.int i2), .val (.int i3), .val (.int ((i1 &&& (2147483647 : Int32)) % (7 : Int32))), .val (.int v11_2_s0), .val (.ref w5), .val (.int (2 : Int32)), .val (.int (3 : Int32)), .unset] [(.int (0 : Int32))])) (fun _ k => XS.iconst X4020.here hx rfl (hb hby at_150) k) ?_
                  exact J136_4023 _ (0 : Int32) X4020 e4020 (by rw [if_neg hc136_4021, if_pos hc143_5022])
                · refine own_step (f' := (mkF m 146 #[.val (.int i1), .val (.int i2), .val (.int i3), .val (.int ((i1 &&& (2147483647 : Int32)) % (7 : Int32))), .val (.int v11_2_s0), .val (.ref w5), .val (.int (2 : Int32)), .val (.int (3 : Int32)), .unset] [])) (fun _ k => XS.icmpNo X4020.here hx rfl (hb hby at_143) rfl (flt hc143_5022).2.2.1 k) ?_
                  refine own_step (f' := (mkF m 147 #[.val (.int i1), .val (.int i2), .val (.int i3), .val (.int ((i1 &&& (2147483647 : Int32)) % (7 : Int32))), .val (.int v11_2_s0), .val (.ref w5), .val (.int (2 : Int32)), .val (.int (3 : Int32)), .unset] [(.int (1 : Int32))])) (fun _ k => XS.iconst X4020.here hx rfl (hb hby at_146) k) ?_
                  refine own_step (f' := (mkF m 151 #[.val (.int i1), .val (.int i2), .val (.int i3), .val (.int ((i1 &&& (2147483647 : Int32)) % (7 : Int32))), .val (.int v11_2_s0), .val (.ref w5), .val (.int (2 : Int32)), .val (.int (3 : Int32)), .unset] [(.int (1 : Int32))])) (fun _ k => XS.goto X4020.here hx rfl (pc0 := 147) (pc' := 151) rfl (hb hby at_147) (by decide) (by decide) k) ?_
                  exact J136_4023 _ (1 : Int32) X4020 e4020 (by rw [if_neg hc136_4021, if_neg hc143_5022])
            · refine own_step (f' := (mkF m 108 #[.val (.int i1), .val (.int i2), .val (.int i3), .val (.int ((i1 &&& (2147483647 : Int32)) % (7 : Int32))), .val (.int v11_2_s0), .unset, .val (.int (2 : Int32)), .unset, .unset] [])) (fun _ k => XS.icmpYes X11_2.here hx rfl (pc0 := 94) (pc' := 108) rfl (hb hby at_94) rfl (feq hc94_4019).2 (by decide) (by decide) k) ?_
              refine own_step (f' := (mkF m 109 #[.val (.int i1), .val (.int i2), .val (.int i3), .val (.int ((i1 &&& (2147483647 : Int32)) % (7 : Int32))), .val (.int v11_2_s0), .unset, .val (.int (2 : Int32)), .unset, .unset] [(.int ((i1 &&& (2147483647 : Int32)) % (7 : Int32)))])) (fun _ k => XS.iloadN X11_2.here hx rfl (hb hby at_108) rfl k) ?_
              refine own_step (f' := (mkF m 110 #[.val (.int i1), .val (.int i2), .val (.int i3), .val (.int ((i1 &&& (2147483647 : Int32)) % (7 : Int32))), .val (.int v11_2_s0), .unset, .val (.int (2 : Int32)), .unset, .unset] [(.int (5 : Int32)), (.int ((i1 &&& (2147483647 : Int32)) % (7 : Int32)))])) (fun _ k => XS.iconst X11_2.here hx rfl (hb hby at_109) k) ?_
              by_cases hc110_5023 : ((i1 &&& (2147483647 : Int32)) % (7 : Int32)) = (5 : Int32)
              · refine own_step (f' := (mkF m 113 #[.val (.int i1), .val (.int i2), .val (.int i3), .val (.int ((i1 &&& (2147483647 : Int32)) % (7 : Int32))), .val (.int v11_2_s0), .unset, .val (.int (2 : Int32)), .unset, .unset] [])) (fun _ k => XS.icmpNo X11_2.here hx rfl (hb hby at_110) rfl (teq hc110_5023).2 k) ?_
                obtain ⟨T5024, X5024, e5024, st5024⟩ := getS2 X11_2 hx hZ hown (host := "") (Or.inl (hw _ (List.mem_of_getElem? (i := 17) rfl))) Via.refl e11_2 S_SEMAPHORE (g := (mkF m 113 #[.val (.int i1), .val (.int i2), .val (.int i3), .val (.int ((i1 &&& (2147483647 : Int32)) % (7 : Int32))), .val (.int v11_2_s0), .unset, .val (.int (2 : Int32)), .unset, .unset] [])) rfl (hb hby at_113)
                refine own_step (f' := (mkF m 116 #[.val (.int i1), .val (.int i2), .val (.int i3), .val (.int ((i1 &&& (2147483647 : Int32)) % (7 : Int32))), .val (.int v11_2_s0), .unset, .val (.int (2 : Int32)), .unset, .unset] [(.ref w6)])) st5024 ?_
                refine own_step (f' := (mkF m 118 #[.val (.int i1), .val (.int i2), .val (.int i3), .val (.int ((i1 &&& (2147483647 : Int32)) % (7 : Int32))), .val (.int v11_2_s0), .val (.ref w6), .val (.int (2 : Int32)), .unset, .unset] [])) (fun _ k => XS.astore X5024.here hx rfl (hb hby at_116) rfl rfl (l' := #[.val (.int i1), .val (.int i2), .val (.int i3), .val (.int ((i1 &&& (2147483647 : Int32)) % (7 : Int32))), .val (.int v11_2_s0), .val (.ref w6), .val (.int (2 : Int32)), .unset, .unset]) rfl k) ?_
                refine own_step (f' := (mkF m 119 #[.val (.int i1), .val (.int i2), .val (.int i3), .val (.int ((i1 &&& (2147483647 : Int32)) % (7 : Int32))), .val (.int v11_2_s0), .val (.ref w6), .val (.int (2 : Int32)), .unset, .unset] [(.int (5 : Int32))])) (fun _ k => XS.iconst X5024.here hx rfl (hb hby at_118) k) ?_
                refine own_step (f' := (mkF m 121 #[.val (.int i1), .val (.int i2), .val (.int i3), .val (.int ((i1 &&& (2147483647 : Int32)) % (7 : Int32))), .val (.int v11_2_s0), .val (.ref w6), .val (.int (2 : Int32)), .val (.int (5 : Int32)), .unset] [])) (fun _ k => XS.istore X5024.here hx rfl (hb hby at_119) rfl (l' := #[.val (.int i1), .val (.int i2), .val (.int i3), .val (.int ((i1 &&& (2147483647 : Int32)) % (7 : Int32))), .val (.int v11_2_s0), .val (.ref w6), .val (.int (2 : Int32)), .val (.int (5 : Int32)), .unset]) rfl k) ?_
                refine own_step (f' := (mkF m 132 #[.val (.int i1), .val (.int i2), .val (.int i3), .val (.int ((i1 &&& (2147483647 : Int32)) % (7 : Int32))), .val (.int v11_2_s0), .val (.ref w6), .val (.int (2 : Int32)), .val (.int (5 : Int32)), .unset] [])) (fun _ k => XS.goto X5024.here hx rfl (pc0 := 121) (pc' := 132) rfl (hb hby at_121) (by decide) (by decide) k) ?_
                refine own_step (f' := (mkF m 134 #[.val (.int i1), .val (.int i2), .val (.int i3), .val (.int ((i1 &&& (2147483647 : Int32)) % (7 : Int32))), .val (.int v11_2_s0), .val (.ref w6), .val (.int (2 : Int32)), .val (.int (5 : Int32)), .unset] [(.int (2 : Int32))])) (fun _ k => XS.iload X5024.here hx rfl (hb hby at_132) rfl k) ?_
                refine own_step (f' := (mkF m 136 #[.val (.int i1), .val (.int i2), .val (.int i3), .val (.int ((i1 &&& (2147483647 : Int32)) % (7 : Int32))), .val (.int v11_2_s0), .val (.ref w6), .val (.int (2 : Int32)), .val (.int (5 : Int32)), .unset] [(.int v11_2_s0), (.int (2 : Int32))])) (fun _ k => XS.iload X5024.here hx rfl (hb hby at_134) rfl k) ?_
                have J136_5027 : ∀ (T136_5027 : State) (v136_5027_s0 : Int32), Stand p l e room_1 s m #[(.int i1), (.int i2), (.int i3)] below meth c T136_5027 [] 0 0 → T136_5027.heap = h0 → v136_5027_s0 = (if v11_2_s0 < (2 : Int32) then (0 : Int32) else (if (5 : Int32) < v11_2_s0 then (0 : Int32) else (1 : Int32))) → own_Goes p e below s (Q0 Z i1 i2 i3 w1 w2 w4 w6 w3 w5 w7 h0 n0) room_1.cells room_1.slots T136_5027 (mkF m 151 #[.val (.int i1), .val (.int i2), .val (.int i3), .val (.int ((i1 &&& (2147483647 : Int32)) % (7 : Int32))), .val (.int v11_2_s0), .val (.ref w6), .val (.int (2 : Int32)), .val (.int (5 : Int32)), .unset] [(.int v136_5027_s0)]) := by
                  intro T136_5027 v136_5027_s0 X136_5027 e136_5027 hv136_5027_0
                  refine own_step (f' := (mkF m 153 #[.val (.int i1), .val (.int i2), .val (.int i3), .val (.int ((i1 &&& (2147483647 : Int32)) % (7 : Int32))), .val (.int v11_2_s0), .val (.ref w6), .val (.int (2 : Int32)), .val (.int (5 : Int32)), .val (.int v136_5027_s0)] [])) (fun _ k => XS.istore X136_5027.here hx rfl (hb hby at_151) rfl (l' := #[.val (.int i1), .val (.int i2), .val (.int i3), .val (.int ((i1 &&& (2147483647 : Int32)) % (7 : Int32))), .val (.int v11_2_s0), .val (.ref w6), .val (.int (2 : Int32)), .val (.int (5 : Int32)), .val (.int v136_5027_s0)]) rfl k) ?_
                  refine own_step (f' := (mkF m 155 #[.val (.int i1), .val (.int i2), .val (.int i3), .val (.int ((i1 &&& (2147483647 : Int32)) % (7 : Int32))), .val (.int v11_2_s0), .val (.ref w6), .val (.int (2 : Int32)), .val (.int (5 : Int32)), .val (.int v136_5027_s0)] [(.ref w6)])) (fun _ k => XS.aload X136_5027.here hx rfl (hb hby at_153) rfl rfl k) ?_
                  refine own_step (f' := (mkF m 157 #[.val (.int i1), .val (.int i2), .val (.int i3), .val (.int ((i1 &&& (2147483647 : Int32)) % (7 : Int32))), .val (.int v11_2_s0), .val (.ref w6), .val (.int (2 : Int32)), .val (.int (5 : Int32)), .val (.int v136_5027_s0)] [(.int v11_2_s0), (.ref w6)])) (fun _ k => XS.iload X136_5027.here hx rfl (hb hby at_155) rfl k) ?_
                  have Zq5028 : n0 ≤ h0.size := Z0
                  obtain ⟨cq5028, kq5028, q5028a, q5028b, q5028c⟩ := isOf hZ e136_5027 E_w6
                  obtain ⟨_, _, ⟨T5028, L5028, k5028, n5028⟩, -, X5028, ⟨Lc5028, hQ5028, l5028, y5028, z5028⟩, st5028⟩ := X136_5027.virtualBack hx (y := (⟨"com/example/fair_mutex/fairmutex/Catalog", "supports", "(I)Z"⟩ : MethodName)) (z := (⟨"com/example/fair_mutex/fairmutex/Catalog", "supports", "(I)Z"⟩ : MethodName)) hown (mvT hZ (hw _ (List.mem_of_getElem? (i := 4) rfl))) (mvT hZ (hw _ (List.mem_of_getElem? (i := 5) rfl))) (notFace_of_selects (args := #[]) (mvT hZ (hw _ (List.mem_of_getElem? (i := 7) rfl)))) (mvT hZ (hw _ (List.mem_of_getElem? (i := 7) rfl))) (mvT hZ (hw _ (List.mem_of_getElem? (i := 6) rfl))) (by decide) (backOf (W := 0) (rm1 l Z a0 hw [] w6 v11_2_s0 (2 : Int32) (5 : Int32) h0 n0 Zq5028 F_minThreads_w6 F_maxThreads_w6) hZ (hw _ (List.mem_of_getElem? (i := 8) rfl)) (hw _ (List.mem_of_getElem? (i := 2) rfl)) (by decide) (by decide)) q5028a q5028c (g := (mkF m 157 #[.val (.int i1), .val (.int i2), .val (.int i3), .val (.int ((i1 &&& (2147483647 : Int32)) % (7 : Int32))), .val (.int v11_2_s0), .val (.ref w6), .val (.int (2 : Int32)), .val (.int (5 : Int32)), .val (.int v136_5027_s0)] [(.int v11_2_s0), (.ref w6)])) rfl (by rw [hml]; rfl) (Steps.refl _) (argsL := [(.int v11_2_s0)]) (rest := []) (lenOf pd_0 rfl) rfl (by show 2 * 0 + _ ≤ _; exact Nat.le_of_eq rfl) (hb hby at_157) (fun _ _ => ⟨rfl, e136_5027, (by decide : 0 + 0 ≤ _), (by decide : 0 + 0 ≤ _)⟩)
                  dsimp only [Pt.U, Pt.locs, Pt.cells, Pt.slots] at X5028 l5028 y5028 z5028 st5028 hQ5028
                  subst l5028 y5028 z5028
                  obtain ⟨rfl, rfl, e5028⟩ := hQ5028
                  try rw [List.append_nil] at X5028
                  refine own_jump (f' := (mkF m 160 #[.val (.int i1), .val (.int i2), .val (.int i3), .val (.int ((i1 &&& (2147483647 : Int32)) % (7 : Int32))), .val (.int v11_2_s0), .val (.ref w6), .val (.int (2 : Int32)), .val (.int (5 : Int32)), .val (.int v136_5027_s0)] [(.int (own_sup v11_2_s0 (2 : Int32) (5 : Int32)))])) st5028 ?_
                  refine own_step (f' := (mkF m 162 #[.val (.int i1), .val (.int i2), .val (.int i3), .val (.int ((i1 &&& (2147483647 : Int32)) % (7 : Int32))), .val (.int v11_2_s0), .val (.ref w6), .val (.int (2 : Int32)), .val (.int (5 : Int32)), .val (.int v136_5027_s0)] [(.int v136_5027_s0), (.int (own_sup v11_2_s0 (2 : Int32) (5 : Int32)))])) (fun _ k => XS.iload X5028.here hx rfl (hb hby at_160) rfl k) ?_
                  have hf162_5029 : (own_sup v11_2_s0 (2 : Int32) (5 : Int32)) = v136_5027_s0 := hv136_5027_0.symm
                  refine own_step (f' := (mkF m 165 #[.val (.int i1), .val (.int i2), .val (.int i3), .val (.int ((i1 &&& (2147483647 : Int32)) % (7 : Int32))), .val (.int v11_2_s0), .val (.ref w6), .val (.int (2 : Int32)), .val (.int (5 : Int32)), .val (.int v136_5027_s0)] [])) (fun _ k => XS.icmpNo X5028.here hx rfl (hb hby at_162) rfl (teq hf162_5029).2 k) ?_
                  refine own_step (f' := (mkF m 166 #[.val (.int i1), .val (.int i2), .val (.int i3), .val (.int ((i1 &&& (2147483647 : Int32)) % (7 : Int32))), .val (.int v11_2_s0), .val (.ref w6), .val (.int (2 : Int32)), .val (.int (5 : Int32)), .val (.int v136_5027_s0)] [(.int (1 : Int32))])) (fun _ k => XS.iconst X5028.here hx rfl (hb hby at_165) k) ?_
                  refine own_step (f' := (mkF m 170 #[.val (.int i1), .val (.int i2), .val (.int i3), .val (.int ((i1 &&& (2147483647 : Int32)) % (7 : Int32))), .val (.int v11_2_s0), .val (.ref w6), .val (.int (2 : Int32)), .val (.int (5 : Int32)), .val (.int v136_5027_s0)] [(.int (1 : Int32))])) (fun _ k => XS.goto X5028.here hx rfl (pc0 := 166) (pc' := 170) rfl (hb hby at_166) (by decide) (by decide) k) ?_
                  refine own_out (v := some (.int (1 : Int32))) X5028 hlk (fun h => by rw [Bd.returns] at h; cases h) (fun fs hr => retN X5028 hx (t := .boolean) Bd.returns (by simp) (hb hby at_170) hr) (by decide) (by decide) ?_
                  exact ⟨rfl, N0⟩
                by_cases hc136_5025 : v11_2_s0 < (2 : Int32)
                · refine own_step (f' := (mkF m 150 #[.val (.int i1), .val (.int i2), .val (.int i3), .val (.int ((i1 &&& (2147483647 : Int32)) % (7 : Int32))), .val (.int v11_2_s0), .val (.ref w6), .val (.int (2 : Int32)), .val (.int (5 : Int32)), .unset] [])) (fun _ k => XS.icmpYes X5024.here hx rfl (pc0 := 136) (pc' := 150) rfl (hb hby at_136) rfl (tlt hc136_5025).2.2.1 (by decide) (by decide) k) ?_
                  refine own_step (f' := (mkF m 151 #[.val (.int i1), .val (.int i2), .val (.int i3), .val (.int ((i1 &&& (2147483647 : Int32)) % (7 : Int32))), .val (.int v11_2_s0), .val (.ref w6), .val (.int (2 : Int32)), .val (.int (5 : Int32)), .unset] [(.int (0 : Int32))])) (fun _ k => XS.iconst X5024.here hx rfl (hb hby at_150) k) ?_
                  exact J136_5027 _ (0 : Int32) X5024 e5024 (by rw [if_pos hc136_5025])
                · refine own_step (f' := (mkF m 139 #[.val (.int i1), .val (.int i2), .val (.int i3), .val (.int ((i1 &&& (2147483647 : Int32)) % (7 : Int32))), .val (.int v11_2_s0), .val (.ref w6), .val (.int (2 : Int32)), .val (.int (5 : Int32)), .unset] [])) (fun _ k => XS.icmpNo X5024.here hx rfl (hb hby at_136) rfl (flt hc136_5025).2.2.1 k) ?_
                  refine own_step (f' := (mkF m 141 #[.val (.int i1), .val (.int i2), .val (.int i3), .val (.int ((i1 &&& (2147483647 : Int32)) % (7 : Int32))), .val (.int v11_2_s0), .val (.ref w6), .val (.int (2 : Int32)), .val (.int (5 : Int32)), .unset] [(.int v11_2_s0)])) (fun _ k => XS.iload X5024.here hx rfl (hb hby at_139) rfl k) ?_
                  refine own_step (f' := (mkF m 143 #[.val (.int i1), .val (.int i2), .val (.int i3), .val (.int ((i1 &&& (2147483647 : Int32)) % (7 : Int32))), .val (.int v11_2_s0), .val (.ref w6), .val (.int (2 : Int32)), .val (.int (5 : Int32)), .unset] [(.int (5 : Int32)), (.int v11_2_s0)])) (fun _ k => XS.iload X5024.here hx rfl (hb hby at_141) rfl k) ?_
                  by_cases hc143_6026 : (5 : Int32) < v11_2_s0
                  · refine own_step (f' := (mkF m 150 #[.val (.int i1), .val (.int i2), .val (.int i3), .val (.int ((i1 &&& (2147483647 : Int32)) % (7 : Int32))), .val (.int v11_2_s0), .val (.ref w6), .val (.int (2 : Int32)), .val (.int (5 : Int32)), .unset] [])) (fun _ k => XS.icmpYes X5024.here hx rfl (pc0 := 143) (pc' := 150) rfl (hb hby at_143) rfl (tlt hc143_6026).2.2.1 (by decide) (by decide) k) ?_
                    refine own_step (f' := (mkF m 151 #[.val (.int i1), .val (.int i2), .val (.int i3), .val (.int ((i1 &&& (2147483647 : Int32)) % (7 : Int32))), .val (.int v11_2_s0), .val (.ref w6), .val (.int (2 : Int32)), .val (.int (5 : Int32)), .unset] [(.int (0 : Int32))])) (fun _ k => XS.iconst X5024.here hx rfl (hb hby at_150) k) ?_
                    exact J136_5027 _ (0 : Int32) X5024 e5024 (by rw [if_neg hc136_5025, if_pos hc143_6026])
                  · refine own_step (f' := (mkF m 146 #[.val (.int i1), .val (.int i2), .val (.int i3), .val (.int ((i1 &&& (2147483647 : Int32)) % (7 : Int32))), .val (.int v11_2_s0), .val (.ref w6), .val (.int (2 : Int32)), .val (.int (5 : Int32)), .unset] [])) (fun _ k => XS.icmpNo X5024.here hx rfl (hb hby at_143) rfl (flt hc143_6026).2.2.1 k) ?_
                    refine own_step (f' := (mkF m 147 #[.val (.int i1), .val (.int i2), .val (.int i3), .val (.int ((i1 &&& (2147483647 : Int32)) % (7 : Int32))), .val (.int v11_2_s0), .val (.ref w6), .val (.int (2 : Int32)), .val (.int (5 : Int32)), .unset] [(.int (1 : Int32))])) (fun _ k => XS.iconst X5024.here hx rfl (hb hby at_146) k) ?_
                    refine own_step (f' := (mkF m 151 #[.val (.int i1), .val (.int i2), .val (.int i3), .val (.int ((i1 &&& (2147483647 : Int32)) % (7 : Int32))), .val (.int v11_2_s0), .val (.ref w6), .val (.int (2 : Int32)), .val (.int (5 : Int32)), .unset] [(.int (1 : Int32))])) (fun _ k => XS.goto X5024.here hx rfl (pc0 := 147) (pc' := 151) rfl (hb hby at_147) (by decide) (by decide) k) ?_
                    exact J136_5027 _ (1 : Int32) X5024 e5024 (by rw [if_neg hc136_5025, if_neg hc143_6026])
              · refine own_step (f' := (mkF m 124 #[.val (.int i1), .val (.int i2), .val (.int i3), .val (.int ((i1 &&& (2147483647 : Int32)) % (7 : Int32))), .val (.int v11_2_s0), .unset, .val (.int (2 : Int32)), .unset, .unset] [])) (fun _ k => XS.icmpYes X11_2.here hx rfl (pc0 := 110) (pc' := 124) rfl (hb hby at_110) rfl (feq hc110_5023).2 (by decide) (by decide) k) ?_
                obtain ⟨T6027, X6027, e6027, st6027⟩ := getS2 X11_2 hx hZ hown (host := "") (Or.inl (hw _ (List.mem_of_getElem? (i := 23) rfl))) Via.refl e11_2 S_SPLIT_SEMAPHORE (g := (mkF m 124 #[.val (.int i1), .val (.int i2), .val (.int i3), .val (.int ((i1 &&& (2147483647 : Int32)) % (7 : Int32))), .val (.int v11_2_s0), .unset, .val (.int (2 : Int32)), .unset, .unset] [])) rfl (hb hby at_124)
                refine own_step (f' := (mkF m 127 #[.val (.int i1), .val (.int i2), .val (.int i3), .val (.int ((i1 &&& (2147483647 : Int32)) % (7 : Int32))), .val (.int v11_2_s0), .unset, .val (.int (2 : Int32)), .unset, .unset] [(.ref w7)])) st6027 ?_
                refine own_step (f' := (mkF m 129 #[.val (.int i1), .val (.int i2), .val (.int i3), .val (.int ((i1 &&& (2147483647 : Int32)) % (7 : Int32))), .val (.int v11_2_s0), .val (.ref w7), .val (.int (2 : Int32)), .unset, .unset] [])) (fun _ k => XS.astore X6027.here hx rfl (hb hby at_127) rfl rfl (l' := #[.val (.int i1), .val (.int i2), .val (.int i3), .val (.int ((i1 &&& (2147483647 : Int32)) % (7 : Int32))), .val (.int v11_2_s0), .val (.ref w7), .val (.int (2 : Int32)), .unset, .unset]) rfl k) ?_
                refine own_step (f' := (mkF m 130 #[.val (.int i1), .val (.int i2), .val (.int i3), .val (.int ((i1 &&& (2147483647 : Int32)) % (7 : Int32))), .val (.int v11_2_s0), .val (.ref w7), .val (.int (2 : Int32)), .unset, .unset] [(.int (5 : Int32))])) (fun _ k => XS.iconst X6027.here hx rfl (hb hby at_129) k) ?_
                refine own_step (f' := (mkF m 132 #[.val (.int i1), .val (.int i2), .val (.int i3), .val (.int ((i1 &&& (2147483647 : Int32)) % (7 : Int32))), .val (.int v11_2_s0), .val (.ref w7), .val (.int (2 : Int32)), .val (.int (5 : Int32)), .unset] [])) (fun _ k => XS.istore X6027.here hx rfl (hb hby at_130) rfl (l' := #[.val (.int i1), .val (.int i2), .val (.int i3), .val (.int ((i1 &&& (2147483647 : Int32)) % (7 : Int32))), .val (.int v11_2_s0), .val (.ref w7), .val (.int (2 : Int32)), .val (.int (5 : Int32)), .unset]) rfl k) ?_
                refine own_step (f' := (mkF m 134 #[.val (.int i1), .val (.int i2), .val (.int i3), .val (.int ((i1 &&& (2147483647 : Int32)) % (7 : Int32))), .val (.int v11_2_s0), .val (.ref w7), .val (.int (2 : Int32)), .val (.int (5 : Int32)), .unset] [(.int (2 : Int32))])) (fun _ k => XS.iload X6027.here hx rfl (hb hby at_132) rfl k) ?_
                refine own_step (f' := (mkF m 136 #[.val (.int i1), .val (.int i2), .val (.int i3), .val (.int ((i1 &&& (2147483647 : Int32)) % (7 : Int32))), .val (.int v11_2_s0), .val (.ref w7), .val (.int (2 : Int32)), .val (.int (5 : Int32)), .unset] [(.int v11_2_s0), (.int (2 : Int32))])) (fun _ k => XS.iload X6027.here hx rfl (hb hby at_134) rfl k) ?_
                have J136_6030 : ∀ (T136_6030 : State) (v136_6030_s0 : Int32), Stand p l e room_1 s m #[(.int i1), (.int i2), (.int i3)] below meth c T136_6030 [] 0 0 → T136_6030.heap = h0 → v136_6030_s0 = (if v11_2_s0 < (2 : Int32) then (0 : Int32) else (if (5 : Int32) < v11_2_s0 then (0 : Int32) else (1 : Int32))) → own_Goes p e below s (Q0 Z i1 i2 i3 w1 w2 w4 w6 w3 w5 w7 h0 n0) room_1.cells room_1.slots T136_6030 (mkF m 151 #[.val (.int i1), .val (.int i2), .val (.int i3), .val (.int ((i1 &&& (2147483647 : Int32)) % (7 : Int32))), .val (.int v11_2_s0), .val (.ref w7), .val (.int (2 : Int32)), .val (.int (5 : Int32)), .unset] [(.int v136_6030_s0)]) := by
                  intro T136_6030 v136_6030_s0 X136_6030 e136_6030 hv136_6030_0
                  refine own_step (f' := (mkF m 153 #[.val (.int i1), .val (.int i2), .val (.int i3), .val (.int ((i1 &&& (2147483647 : Int32)) % (7 : Int32))), .val (.int v11_2_s0), .val (.ref w7), .val (.int (2 : Int32)), .val (.int (5 : Int32)), .val (.int v136_6030_s0)] [])) (fun _ k => XS.istore X136_6030.here hx rfl (hb hby at_151) rfl (l' := #[.val (.int i1), .val (.int i2), .val (.int i3), .val (.int ((i1 &&& (2147483647 : Int32)) % (7 : Int32))), .val (.int v11_2_s0), .val (.ref w7), .val (.int (2 : Int32)), .val (.int (5 : Int32)), .val (.int v136_6030_s0)]) rfl k) ?_
                  refine own_step (f' := (mkF m 155 #[.val (.int i1), .val (.int i2), .val (.int i3), .val (.int ((i1 &&& (2147483647 : Int32)) % (7 : Int32))), .val (.int v11_2_s0), .val (.ref w7), .val (.int (2 : Int32)), .val (.int (5 : Int32)), .val (.int v136_6030_s0)] [(.ref w7)])) (fun _ k => XS.aload X136_6030.here hx rfl (hb hby at_153) rfl rfl k) ?_
                  refine own_step (f' := (mkF m 157 #[.val (.int i1), .val (.int i2), .val (.int i3), .val (.int ((i1 &&& (2147483647 : Int32)) % (7 : Int32))), .val (.int v11_2_s0), .val (.ref w7), .val (.int (2 : Int32)), .val (.int (5 : Int32)), .val (.int v136_6030_s0)] [(.int v11_2_s0), (.ref w7)])) (fun _ k => XS.iload X136_6030.here hx rfl (hb hby at_155) rfl k) ?_
                  have Zq6031 : n0 ≤ h0.size := Z0
                  obtain ⟨cq6031, kq6031, q6031a, q6031b, q6031c⟩ := isOf hZ e136_6030 E_w7
                  obtain ⟨_, _, ⟨T6031, L6031, k6031, n6031⟩, -, X6031, ⟨Lc6031, hQ6031, l6031, y6031, z6031⟩, st6031⟩ := X136_6030.virtualBack hx (y := (⟨"com/example/fair_mutex/fairmutex/Catalog", "supports", "(I)Z"⟩ : MethodName)) (z := (⟨"com/example/fair_mutex/fairmutex/Catalog", "supports", "(I)Z"⟩ : MethodName)) hown (mvT hZ (hw _ (List.mem_of_getElem? (i := 4) rfl))) (mvT hZ (hw _ (List.mem_of_getElem? (i := 5) rfl))) (notFace_of_selects (args := #[]) (mvT hZ (hw _ (List.mem_of_getElem? (i := 7) rfl)))) (mvT hZ (hw _ (List.mem_of_getElem? (i := 7) rfl))) (mvT hZ (hw _ (List.mem_of_getElem? (i := 6) rfl))) (by decide) (backOf (W := 0) (rm1 l Z a0 hw [] w7 v11_2_s0 (2 : Int32) (5 : Int32) h0 n0 Zq6031 F_minThreads_w7 F_maxThreads_w7) hZ (hw _ (List.mem_of_getElem? (i := 8) rfl)) (hw _ (List.mem_of_getElem? (i := 2) rfl)) (by decide) (by decide)) q6031a q6031c (g := (mkF m 157 #[.val (.int i1), .val (.int i2), .val (.int i3), .val (.int ((i1 &&& (2147483647 : Int32)) % (7 : Int32))), .val (.int v11_2_s0), .val (.ref w7), .val (.int (2 : Int32)), .val (.int (5 : Int32)), .val (.int v136_6030_s0)] [(.int v11_2_s0), (.ref w7)])) rfl (by rw [hml]; rfl) (Steps.refl _) (argsL := [(.int v11_2_s0)]) (rest := []) (lenOf pd_0 rfl) rfl (by show 2 * 0 + _ ≤ _; exact Nat.le_of_eq rfl) (hb hby at_157) (fun _ _ => ⟨rfl, e136_6030, (by decide : 0 + 0 ≤ _), (by decide : 0 + 0 ≤ _)⟩)
                  dsimp only [Pt.U, Pt.locs, Pt.cells, Pt.slots] at X6031 l6031 y6031 z6031 st6031 hQ6031
                  subst l6031 y6031 z6031
                  obtain ⟨rfl, rfl, e6031⟩ := hQ6031
                  try rw [List.append_nil] at X6031
                  refine own_jump (f' := (mkF m 160 #[.val (.int i1), .val (.int i2), .val (.int i3), .val (.int ((i1 &&& (2147483647 : Int32)) % (7 : Int32))), .val (.int v11_2_s0), .val (.ref w7), .val (.int (2 : Int32)), .val (.int (5 : Int32)), .val (.int v136_6030_s0)] [(.int (own_sup v11_2_s0 (2 : Int32) (5 : Int32)))])) st6031 ?_
                  refine own_step (f' := (mkF m 162 #[.val (.int i1), .val (.int i2), .val (.int i3), .val (.int ((i1 &&& (2147483647 : Int32)) % (7 : Int32))), .val (.int v11_2_s0), .val (.ref w7), .val (.int (2 : Int32)), .val (.int (5 : Int32)), .val (.int v136_6030_s0)] [(.int v136_6030_s0), (.int (own_sup v11_2_s0 (2 : Int32) (5 : Int32)))])) (fun _ k => XS.iload X6031.here hx rfl (hb hby at_160) rfl k) ?_
                  have hf162_6032 : (own_sup v11_2_s0 (2 : Int32) (5 : Int32)) = v136_6030_s0 := hv136_6030_0.symm
                  refine own_step (f' := (mkF m 165 #[.val (.int i1), .val (.int i2), .val (.int i3), .val (.int ((i1 &&& (2147483647 : Int32)) % (7 : Int32))), .val (.int v11_2_s0), .val (.ref w7), .val (.int (2 : Int32)), .val (.int (5 : Int32)), .val (.int v136_6030_s0)] [])) (fun _ k => XS.icmpNo X6031.here hx rfl (hb hby at_162) rfl (teq hf162_6032).2 k) ?_
                  refine own_step (f' := (mkF m 166 #[.val (.int i1), .val (.int i2), .val (.int i3), .val (.int ((i1 &&& (2147483647 : Int32)) % (7 : Int32))), .val (.int v11_2_s0), .val (.ref w7), .val (.int (2 : Int32)), .val (.int (5 : Int32)), .val (.int v136_6030_s0)] [(.int (1 : Int32))])) (fun _ k => XS.iconst X6031.here hx rfl (hb hby at_165) k) ?_
                  refine own_step (f' := (mkF m 170 #[.val (.int i1), .val (.int i2), .val (.int i3), .val (.int ((i1 &&& (2147483647 : Int32)) % (7 : Int32))), .val (.int v11_2_s0), .val (.ref w7), .val (.int (2 : Int32)), .val (.int (5 : Int32)), .val (.int v136_6030_s0)] [(.int (1 : Int32))])) (fun _ k => XS.goto X6031.here hx rfl (pc0 := 166) (pc' := 170) rfl (hb hby at_166) (by decide) (by decide) k) ?_
                  refine own_out (v := some (.int (1 : Int32))) X6031 hlk (fun h => by rw [Bd.returns] at h; cases h) (fun fs hr => retN X6031 hx (t := .boolean) Bd.returns (by simp) (hb hby at_170) hr) (by decide) (by decide) ?_
                  exact ⟨rfl, N0⟩
                by_cases hc136_6028 : v11_2_s0 < (2 : Int32)
                · refine own_step (f' := (mkF m 150 #[.val (.int i1), .val (.int i2), .val (.int i3), .val (.int ((i1 &&& (2147483647 : Int32)) % (7 : Int32))), .val (.int v11_2_s0), .val (.ref w7), .val (.int (2 : Int32)), .val (.int (5 : Int32)), .unset] [])) (fun _ k => XS.icmpYes X6027.here hx rfl (pc0 := 136) (pc' := 150) rfl (hb hby at_136) rfl (tlt hc136_6028).2.2.1 (by decide) (by decide) k) ?_
                  refine own_step (f' := (mkF m 151 #[.val (.int i1), .val (.int i2), .val (.int i3), .val (.int ((i1 &&& (2147483647 : Int32)) % (7 : Int32))), .val (.int v11_2_s0), .val (.ref w7), .val (.int (2 : Int32)), .val (.int (5 : Int32)), .unset] [(.int (0 : Int32))])) (fun _ k => XS.iconst X6027.here hx rfl (hb hby at_150) k) ?_
                  exact J136_6030 _ (0 : Int32) X6027 e6027 (by rw [if_pos hc136_6028])
                · refine own_step (f' := (mkF m 139 #[.val (.int i1), .val (.int i2), .val (.int i3), .val (.int ((i1 &&& (2147483647 : Int32)) % (7 : Int32))), .val (.int v11_2_s0), .val (.ref w7), .val (.int (2 : Int32)), .val (.int (5 : Int32)), .unset] [])) (fun _ k => XS.icmpNo X6027.here hx rfl (hb hby at_136) rfl (flt hc136_6028).2.2.1 k) ?_
                  refine own_step (f' := (mkF m 141 #[.val (.int i1), .val (.int i2), .val (.int i3), .val (.int ((i1 &&& (2147483647 : Int32)) % (7 : Int32))), .val (.int v11_2_s0), .val (.ref w7), .val (.int (2 : Int32)), .val (.int (5 : Int32)), .unset] [(.int v11_2_s0)])) (fun _ k => XS.iload X6027.here hx rfl (hb hby at_139) rfl k) ?_
                  refine own_step (f' := (mkF m 143 #[.val (.int i1), .val (.int i2), .val (.int i3), .val (.int ((i1 &&& (2147483647 : Int32)) % (7 : Int32))), .val (.int v11_2_s0), .val (.ref w7), .val (.int (2 : Int32)), .val (.int (5 : Int32)), .unset] [(.int (5 : Int32)), (.int v11_2_s0)])) (fun _ k => XS.iload X6027.here hx rfl (hb hby at_141) rfl k) ?_
                  by_cases hc143_7029 : (5 : Int32) < v11_2_s0
                  · refine own_step (f' := (mkF m 150 #[.val (.int i1), .val (.int i2), .val (.int i3), .val (.int ((i1 &&& (2147483647 : Int32)) % (7 : Int32))), .val (.int v11_2_s0), .val (.ref w7), .val (.int (2 : Int32)), .val (.int (5 : Int32)), .unset] [])) (fun _ k => XS.icmpYes X6027.here hx rfl (pc0 := 143) (pc' := 150) rfl (hb hby at_143) rfl (tlt hc143_7029).2.2.1 (by decide) (by decide) k) ?_
                    refine own_step (f' := (mkF m 151 #[.val (.int i1), .val (.int i2), .val (.int i3), .val (.int ((i1 &&& (2147483647 : Int32)) % (7 : Int32))), .val (.int v11_2_s0), .val (.ref w7), .val (.int (2 : Int32)), .val (.int (5 : Int32)), .unset] [(.int (0 : Int32))])) (fun _ k => XS.iconst X6027.here hx rfl (hb hby at_150) k) ?_
                    exact J136_6030 _ (0 : Int32) X6027 e6027 (by rw [if_neg hc136_6028, if_pos hc143_7029])
                  · refine own_step (f' := (mkF m 146 #[.val (.int i1), .val (.int i2), .val (.int i3), .val (.int ((i1 &&& (2147483647 : Int32)) % (7 : Int32))), .val (.int v11_2_s0), .val (.ref w7), .val (.int (2 : Int32)), .val (.int (5 : Int32)), .unset] [])) (fun _ k => XS.icmpNo X6027.here hx rfl (hb hby at_143) rfl (flt hc143_7029).2.2.1 k) ?_
                    refine own_step (f' := (mkF m 147 #[.val (.int i1), .val (.int i2), .val (.int i3), .val (.int ((i1 &&& (2147483647 : Int32)) % (7 : Int32))), .val (.int v11_2_s0), .val (.ref w7), .val (.int (2 : Int32)), .val (.int (5 : Int32)), .unset] [(.int (1 : Int32))])) (fun _ k => XS.iconst X6027.here hx rfl (hb hby at_146) k) ?_
                    refine own_step (f' := (mkF m 151 #[.val (.int i1), .val (.int i2), .val (.int i3), .val (.int ((i1 &&& (2147483647 : Int32)) % (7 : Int32))), .val (.int v11_2_s0), .val (.ref w7), .val (.int (2 : Int32)), .val (.int (5 : Int32)), .unset] [(.int (1 : Int32))])) (fun _ k => XS.goto X6027.here hx rfl (pc0 := 147) (pc' := 151) rfl (hb hby at_147) (by decide) (by decide) k) ?_
                    exact J136_6030 _ (1 : Int32) X6027 e6027 (by rw [if_neg hc136_6028, if_neg hc143_7029])
  by_cases hc11_1 : (i3 &&& (1 : Int32)) = (0 : Int32)
  · refine own_step (f' := (mkF m 18 #[.val (.int i1), .val (.int i2), .val (.int i3), .val (.int ((i1 &&& (2147483647 : Int32)) % (7 : Int32))), .unset, .unset, .unset, .unset, .unset] [])) (fun _ k => XS.ifYes X0.here hx rfl (pc0 := 11) (pc' := 18) rfl (hb hby at_11) rfl ((if0 _ _).trans (teq hc11_1).1) (by decide) (by decide) k) ?_
    refine own_step (f' := (mkF m 19 #[.val (.int i1), .val (.int i2), .val (.int i3), .val (.int ((i1 &&& (2147483647 : Int32)) % (7 : Int32))), .unset, .unset, .unset, .unset, .unset] [(.int i2)])) (fun _ k => XS.iloadN X0.here hx rfl (hb hby at_18) rfl k) ?_
    refine own_step (f' := (mkF m 21 #[.val (.int i1), .val (.int i2), .val (.int i3), .val (.int ((i1 &&& (2147483647 : Int32)) % (7 : Int32))), .unset, .unset, .unset, .unset, .unset] [(.int (7 : Int32)), (.int i2)])) (fun _ k => XS.bipush X0.here hx rfl (hb hby at_19) k) ?_
    refine own_step (f' := (mkF m 22 #[.val (.int i1), .val (.int i2), .val (.int i3), .val (.int ((i1 &&& (2147483647 : Int32)) % (7 : Int32))), .unset, .unset, .unset, .unset, .unset] [(.int (i2 &&& (7 : Int32)))])) (fun _ k => XS.iand X0.here hx rfl (hb hby at_21) rfl k) ?_
    refine own_step (f' := (mkF m 23 #[.val (.int i1), .val (.int i2), .val (.int i3), .val (.int ((i1 &&& (2147483647 : Int32)) % (7 : Int32))), .unset, .unset, .unset, .unset, .unset] [(.int (1 : Int32)), (.int (i2 &&& (7 : Int32)))])) (fun _ k => XS.iconst X0.here hx rfl (hb hby at_22) k) ?_
    refine own_step (f' := (mkF m 24 #[.val (.int i1), .val (.int i2), .val (.int i3), .val (.int ((i1 &&& (2147483647 : Int32)) % (7 : Int32))), .unset, .unset, .unset, .unset, .unset] [(.int ((i2 &&& (7 : Int32)) - (1 : Int32)))])) (fun _ k => XS.isub X0.here hx rfl (hb hby at_23) rfl k) ?_
    exact J11_2 _ ((i2 &&& (7 : Int32)) - (1 : Int32)) X0 e0 (by rw [if_pos hc11_1])
  · refine own_step (f' := (mkF m 14 #[.val (.int i1), .val (.int i2), .val (.int i3), .val (.int ((i1 &&& (2147483647 : Int32)) % (7 : Int32))), .unset, .unset, .unset, .unset, .unset] [])) (fun _ k => XS.ifNo X0.here hx rfl (hb hby at_11) rfl ((if0 _ _).trans (feq hc11_1).1) k) ?_
    refine own_step (f' := (mkF m 15 #[.val (.int i1), .val (.int i2), .val (.int i3), .val (.int ((i1 &&& (2147483647 : Int32)) % (7 : Int32))), .unset, .unset, .unset, .unset, .unset] [(.int i2)])) (fun _ k => XS.iloadN X0.here hx rfl (hb hby at_14) rfl k) ?_
    refine own_step (f' := (mkF m 24 #[.val (.int i1), .val (.int i2), .val (.int i3), .val (.int ((i1 &&& (2147483647 : Int32)) % (7 : Int32))), .unset, .unset, .unset, .unset, .unset] [(.int i2)])) (fun _ k => XS.goto X0.here hx rfl (pc0 := 15) (pc' := 24) rfl (hb hby at_15) (by decide) (by decide) k) ?_
    exact J11_2 _ i2 X0 e0 (by rw [if_neg hc11_1])
theorem own_eqInt {t : Term} {n : Int32} {args : Array Value} {s : State} (h : (Jvm.Cond.eq t (.int n)).value args s none s [] = some true) : t.eval args s none [] s = some (.int n) := by
  simp only [Cond.value] at h
  have hn : (Term.int n).eval args s none [] s = some (.int n) := rfl
  rw [hn] at h
  cases hv : t.eval args s none [] s with
  | none => simp [hv] at h
  | some v =>
    cases v with
    | int x => simp [hv] at h; rw [h]
    | _ => simp [hv] at h
set_option maxRecDepth 65536 in
set_option maxHeartbeats 40000000 in
theorem comes_1 {Post : Tables → Env → Array Value → State → Outcome → State → Prop} (hpost : ∀ tb e args s v u, (limb_1_1.after args s (.returned v) u = true ∧ limb_1_2.after args s (.returned v) u = true ∧ True) → FrameEnd s (.returned v) u (Jvm.fieldLocs frame_1_writes args s ++ Jvm.arrayLocs frame_1_arrays args s ++ Jvm.staticLocs frame_1_statics s) 0 0 → Post tb e args s (.returned v) u) :
    ArmFor flags0 classFile x code maxLocals ret World_1 tables_1 room_1 Calls_1 rest_1 Pre_1 Post := by
  intro l hfl _ _ p e ha hc hk s m args below hf hA hF happ hP
  obtain ⟨hcalls, hrest, hpre⟩ := hP
  obtain ⟨-, -, -, hnamed, -, -, -, hat⟩ := (Spec.applies_iff hf).mp happ
  obtain ⟨hg, hn⟩ := and_e (Cond.before_iff.mp (show (Jvm.Cond.and given_1 narrow_1).before args s = true from hpre))
  obtain ⟨gq1, gq2⟩ := and_e hg
  obtain ⟨gq3, gq4⟩ := and_e gq2
  obtain ⟨gq5, gq6⟩ := and_e gq4
  obtain ⟨w0, w1, w2, rfl⟩ : ∃ w0 w1 w2 : Value, args = #[w0, w1, w2] := by
    have hs : args.size = 3 := by simpa [Cond.value, given_1] using gq1
    obtain ⟨L⟩ := args
    match L, hs with
    | [w0, w1, w2], _ => exact ⟨w0, w1, w2, rfl⟩
  have hw := fun d (hd : d ∈ tables_1) => atoms_spec (ws := Jvm.Cond.code x code maxLocals ret :: tables_1) hat d (List.mem_cons_of_mem _ hd)
  have hfit : Fit s := fun {y c} hc i hi => by
    obtain ⟨ha, rfl⟩ := Array.getElem?_eq_some_iff.mp hc
    have q := List.all_eq_true.mp ((Array.all_eq_true_iff_forall_mem.mp hF) _ (Array.getElem_mem ha)) i (List.mem_range.mpr hi)
    simpa [Array.getElem?_eq_getElem hi] using q
  obtain ⟨i0, ei0⟩ := is_v gq3
  obtain rfl : w0 = (.int i0) := Option.some.inj ei0
  obtain ⟨i1, ei1⟩ := is_v gq5
  obtain rfl : w1 = (.int i1) := Option.some.inj ei1
  obtain ⟨i2, ei2⟩ := is_v gq6
  obtain rfl : w2 = (.int i2) := Option.some.inj ei2
  obtain ⟨nq1, nr1⟩ := and_e hn
  obtain ⟨nq2, nr2⟩ := and_e nr1
  obtain ⟨nq3, nr3⟩ := and_e nr2
  obtain ⟨nq4, nr4⟩ := and_e nr3
  obtain ⟨nq5, nr5⟩ := and_e nr4
  obtain ⟨nq6, nr6⟩ := and_e nr5
  obtain ⟨nq7, nr7⟩ := and_e nr6
  obtain ⟨nq8, nr8⟩ := and_e nr7
  obtain ⟨nq9, nr9⟩ := and_e nr8
  obtain ⟨nq10, nr10⟩ := and_e nr9
  obtain ⟨nq11, nr11⟩ := and_e nr10
  obtain ⟨nq12, nr12⟩ := and_e nr11
  obtain ⟨nq13, nr13⟩ := and_e nr12
  obtain ⟨nq14, nr14⟩ := and_e nr13
  obtain ⟨nq15, nr15⟩ := and_e nr14
  obtain ⟨nq16, nr16⟩ := and_e nr15
  obtain ⟨nq17, nr17⟩ := and_e nr16
  obtain ⟨nq18, nr18⟩ := and_e nr17
  obtain ⟨nq19, nr19⟩ := and_e nr18
  obtain ⟨nq20, nr20⟩ := and_e nr19
  obtain ⟨w1, hw1⟩ := exa_v nq1
  have S_w1 : Sta s s.heap "com/example/fair_mutex/fairmutex/Catalog" "PETERSON" "Lcom/example/fair_mutex/fairmutex/Catalog;" (.ref w1) := Sta.start hw1 (Or.inr ⟨(hw _ (List.mem_of_getElem? (i := 2) rfl)), (hw _ (List.mem_of_getElem? (i := 3) rfl))⟩)
  have E_w1 : Exa s s.heap w1 "com/example/fair_mutex/fairmutex/Catalog" := Exa.start hw1 nq1
  obtain ⟨w2, hw2⟩ := exa_v nq4
  have S_w2 : Sta s s.heap "com/example/fair_mutex/fairmutex/Catalog" "TOURNAMENT" "Lcom/example/fair_mutex/fairmutex/Catalog;" (.ref w2) := Sta.start hw2 (Or.inr ⟨(hw _ (List.mem_of_getElem? (i := 2) rfl)), (hw _ (List.mem_of_getElem? (i := 14) rfl))⟩)
  have E_w2 : Exa s s.heap w2 "com/example/fair_mutex/fairmutex/Catalog" := Exa.start hw2 nq4
  obtain ⟨w4, hw4⟩ := exa_v nq7
  have S_w4 : Sta s s.heap "com/example/fair_mutex/fairmutex/Catalog" "ONE_BIT" "Lcom/example/fair_mutex/fairmutex/Catalog;" (.ref w4) := Sta.start hw4 (Or.inr ⟨(hw _ (List.mem_of_getElem? (i := 2) rfl)), (hw _ (List.mem_of_getElem? (i := 16) rfl))⟩)
  have E_w4 : Exa s s.heap w4 "com/example/fair_mutex/fairmutex/Catalog" := Exa.start hw4 nq7
  obtain ⟨w6, hw6⟩ := exa_v nq10
  have S_w6 : Sta s s.heap "com/example/fair_mutex/fairmutex/Catalog" "SEMAPHORE" "Lcom/example/fair_mutex/fairmutex/Catalog;" (.ref w6) := Sta.start hw6 (Or.inr ⟨(hw _ (List.mem_of_getElem? (i := 2) rfl)), (hw _ (List.mem_of_getElem? (i := 18) rfl))⟩)
  have E_w6 : Exa s s.heap w6 "com/example/fair_mutex/fairmutex/Catalog" := Exa.start hw6 nq10
  obtain ⟨w3, hw3⟩ := exa_v nq12
  have S_w3 : Sta s s.heap "com/example/fair_mutex/fairmutex/Catalog" "FAIR_TOURNAMENT" "Lcom/example/fair_mutex/fairmutex/Catalog;" (.ref w3) := Sta.start hw3 (Or.inr ⟨(hw _ (List.mem_of_getElem? (i := 2) rfl)), (hw _ (List.mem_of_getElem? (i := 20) rfl))⟩)
  have E_w3 : Exa s s.heap w3 "com/example/fair_mutex/fairmutex/Catalog" := Exa.start hw3 nq12
  obtain ⟨w5, hw5⟩ := exa_v nq15
  have S_w5 : Sta s s.heap "com/example/fair_mutex/fairmutex/Catalog" "THREE_BIT" "Lcom/example/fair_mutex/fairmutex/Catalog;" (.ref w5) := Sta.start hw5 (Or.inr ⟨(hw _ (List.mem_of_getElem? (i := 2) rfl)), (hw _ (List.mem_of_getElem? (i := 22) rfl))⟩)
  have E_w5 : Exa s s.heap w5 "com/example/fair_mutex/fairmutex/Catalog" := Exa.start hw5 nq15
  obtain ⟨w7, hw7⟩ := exa_v nq17
  have S_w7 : Sta s s.heap "com/example/fair_mutex/fairmutex/Catalog" "SPLIT_SEMAPHORE" "Lcom/example/fair_mutex/fairmutex/Catalog;" (.ref w7) := Sta.start hw7 (Or.inr ⟨(hw _ (List.mem_of_getElem? (i := 2) rfl)), (hw _ (List.mem_of_getElem? (i := 24) rfl))⟩)
  have E_w7 : Exa s s.heap w7 "com/example/fair_mutex/fairmutex/Catalog" := Exa.start hw7 nq17
  have F_minThreads_w1 : Fld s s.heap w1 "com/example/fair_mutex/fairmutex/Catalog" "minThreads" "I" (.int (2 : Int32)) := Fld.start ((fld_at hw1).symm.trans (own_eqInt nq2))
  have F_maxThreads_w1 : Fld s s.heap w1 "com/example/fair_mutex/fairmutex/Catalog" "maxThreads" "I" (.int (2 : Int32)) := Fld.start ((fld_at hw1).symm.trans (own_eqInt nq3))
  have F_minThreads_w2 : Fld s s.heap w2 "com/example/fair_mutex/fairmutex/Catalog" "minThreads" "I" (.int (2 : Int32)) := Fld.start ((fld_at hw2).symm.trans (own_eqInt nq5))
  have F_maxThreads_w2 : Fld s s.heap w2 "com/example/fair_mutex/fairmutex/Catalog" "maxThreads" "I" (.int (5 : Int32)) := Fld.start ((fld_at hw2).symm.trans (own_eqInt nq6))
  have F_minThreads_w4 : Fld s s.heap w4 "com/example/fair_mutex/fairmutex/Catalog" "minThreads" "I" (.int (2 : Int32)) := Fld.start ((fld_at hw4).symm.trans (own_eqInt nq8))
  have F_maxThreads_w4 : Fld s s.heap w4 "com/example/fair_mutex/fairmutex/Catalog" "maxThreads" "I" (.int (5 : Int32)) := Fld.start ((fld_at hw4).symm.trans (own_eqInt nq9))
  have F_minThreads_w6 : Fld s s.heap w6 "com/example/fair_mutex/fairmutex/Catalog" "minThreads" "I" (.int (2 : Int32)) := Fld.start ((fld_at hw6).symm.trans (own_eqInt nq11))
  have F_minThreads_w3 : Fld s s.heap w3 "com/example/fair_mutex/fairmutex/Catalog" "minThreads" "I" (.int (2 : Int32)) := Fld.start ((fld_at hw3).symm.trans (own_eqInt nq13))
  have F_maxThreads_w3 : Fld s s.heap w3 "com/example/fair_mutex/fairmutex/Catalog" "maxThreads" "I" (.int (5 : Int32)) := Fld.start ((fld_at hw3).symm.trans (own_eqInt nq14))
  have F_minThreads_w5 : Fld s s.heap w5 "com/example/fair_mutex/fairmutex/Catalog" "minThreads" "I" (.int (2 : Int32)) := Fld.start ((fld_at hw5).symm.trans (own_eqInt nq16))
  have F_minThreads_w7 : Fld s s.heap w7 "com/example/fair_mutex/fairmutex/Catalog" "minThreads" "I" (.int (2 : Int32)) := Fld.start ((fld_at hw7).symm.trans (own_eqInt nq18))
  have F_maxThreads_w7 : Fld s s.heap w7 "com/example/fair_mutex/fairmutex/Catalog" "maxThreads" "I" (.int (5 : Int32)) := Fld.start ((fld_at hw7).symm.trans (own_eqInt nq19))
  have F_maxThreads_w5 : Fld s s.heap w5 "com/example/fair_mutex/fairmutex/Catalog" "maxThreads" "I" (.int (3 : Int32)) := Fld.start ((fld_at hw5).symm.trans (own_eqInt nq20))
  have F_maxThreads_w6 : Fld s s.heap w6 "com/example/fair_mutex/fairmutex/Catalog" "maxThreads" "I" (.int (5 : Int32)) := Fld.start ((fld_at hw6).symm.trans (own_eqInt nr20))
  obtain ⟨n, o, h1, h2, h3, _, L, rfl, ⟨rfl, N⟩, hq⟩ := rm0 l s _ hw tables_1 i0 i1 i2 w1 w2 w4 w6 w3 w5 w7 s.heap s.heap.size (Nat.le_refl _) S_w1 E_w1 S_w2 E_w2 S_w4 E_w4 S_w6 E_w6 S_w3 E_w3 S_w5 E_w5 S_w7 E_w7 F_minThreads_w1 F_maxThreads_w1 F_minThreads_w2 F_maxThreads_w2 F_minThreads_w4 F_maxThreads_w4 F_minThreads_w6 F_minThreads_w3 F_maxThreads_w3 F_minThreads_w5 F_minThreads_w7 F_maxThreads_w7 F_maxThreads_w5 F_maxThreads_w6 p e ha hc hk s m _ below hf ((Spec.applies_iff_loose hf).mp happ).1 ⟨rfl, State.Warmed39.refl s, rfl⟩ trivial
  refine ⟨n, _, h1, h2, h3, hpost _ _ _ _ _ _ ⟨Cond.after_iff.mpr rfl, Cond.after_iff.mpr (eq_i res_at (Term.int_eval (1)) rfl), trivial⟩ ⟨hq.1, hq.2.1, (hq.2.2.sift fun y hy => Or.inr (N y hy)).mono (by decide) (by decide)⟩⟩
theorem main_1_1 : Claimed_1_1 := comes_1 fun _ _ _ _ _ _ h hF => ⟨h.1, hF⟩
theorem main_1_2 : Claimed_1_2 := comes_1 fun _ _ _ _ _ _ h hF => ⟨h.2.1, hF⟩
end Jvm.Pilot.@@N@@
namespace Jvm.Pilot.@@N@@
open Jvm Jvm.ClassFile Sem Op Lib Jvm.Free Jvm.Stand Jvm.Pilot.@@N@@.Jvm.D
/-! MADE BY PROGRAM (witnessworld.py) out of the Statement's table words and the real class files: 12 classes; the members and pool entries that the words name. The judged class is class 1, her method 1. -/
namespace start1
open Jvm.ClassFile
def u (s : String) : CpInfo := .utf8 (stringToUtf16 s)
/-- a pool by its gaps: so many unusable entries, then the entry; so many at the end -/
def gap : Nat → List CpInfo → List CpInfo
  | 0, r => r
  | n + 1, r => .unusable :: gap n r
def poolList (es : List (Nat × CpInfo)) (last : Nat) : List CpInfo := es.foldr (fun e r => gap e.1 (e.2 :: r)) (gap last [])
def pool (es : List (Nat × CpInfo)) (last : Nat) : Array CpInfo := ⟨poolList es last⟩
def fileOf (pool : Array CpInfo) (this : Nat) (attrs : Array Attribute := #[]) (ms : Array MethodInfo := #[]) (fl : Nat := 33) (sup : Nat := 0) (ifs : Array Nat := #[]) (fds : Array FieldInfo := #[]) : ClassFile where
  minorVersion := 0
  majorVersion := 65
  constantPool := pool
  accessFlags := fl
  thisClass := this
  superClass := sup
  interfaces := ifs
  fields := fds
  methods := ms
  attributes := attrs
def plain (name : String) (sup : Option ClassId) : Class where
  name := name
  kind := .ordinary
  loader := none
  accessFlags := 33
  super := sup
  interfaces := #[]
  cf := none
  fields := #[]
  methods := #[]
  instanceTypes := #[]
  staticTypes := #[]
  resolved := #[]
  callSites := []
  init := .initialized
  statics := none
  mirror := none

def pool0 : Array CpInfo := pool [(5, u "<init>"), (0, u "()V"), (1, .class_ 10), (1, u "java/lang/Object")] 113

def k0m0 : Method := { name := "<init>", desc := "()V", sig := { parameters := [], returnType := none }, accessFlags := 1, code := none }
/-- java/lang/Object -/
def k0 : Class := { plain "java/lang/Object" none with
  accessFlags := 33
  interfaces := #[]
  cf := some (fileOf pool0 8 #[] #[{ accessFlags := 1, nameIndex := 5, descriptorIndex := 6, attributes := #[] }] 33 0 #[] #[])
  fields := #[]
  methods := #[k0m0]
  instanceTypes := #[]
  staticTypes := #[]
  resolved := Array.replicate 124 none
  statics := none }

def pool1 : Array CpInfo := pool [(2, .class_ 4), (1, u "java/lang/Object"), (0, u "<init>"), (0, u "()V"), (0, .integer 2147483647), (0, .fieldref 9 10), (0, .class_ 11), (0, .nameAndType 12 13), (0, u "com/example/fair_mutex/fairmutex/Catalog"), (0, u "PETERSON"), (0, u "Lcom/example/fair_mutex/fairmutex/Catalog;"), (0, .fieldref 9 15), (0, .nameAndType 16 13), (0, u "TOURNAMENT"), (0, .fieldref 9 18), (0, .nameAndType 19 13), (0, u "FAIR_TOURNAMENT"), (0, .fieldref 9 21), (0, .nameAndType 22 13), (0, u "ONE_BIT"), (0, .fieldref 9 24), (0, .nameAndType 25 13), (0, u "THREE_BIT"), (0, .fieldref 9 27), (0, .nameAndType 28 13), (0, u "SEMAPHORE"), (0, .fieldref 9 30), (0, .nameAndType 31 13), (0, u "SPLIT_SEMAPHORE"), (0, .methodref 9 33), (0, .nameAndType 34 35), (0, u "supports"), (0, u "(I)Z"), (0, .class_ 37), (0, u "com/example/fair_mutex/fairmutex/CatalogSupportsPinLaw"), (2, u "law"), (0, u "(III)Z")] 3

def k1m0 : Method := { name := "<init>", desc := "()V", sig := { parameters := [], returnType := none }, accessFlags := 2, code := none }
def k1c1 : Code := { maxStack := 2, maxLocals := 9, code := code, exceptionTable := #[], attributes := #[] }
def k1m1 : Method := { name := "law", desc := "(III)Z", sig := { parameters := [.int, .int, .int], returnType := some .boolean }, accessFlags := 9, code := some k1c1 }
/-- com/example/fair_mutex/fairmutex/CatalogSupportsPinLaw -/
def k1 : Class := { plain "com/example/fair_mutex/fairmutex/CatalogSupportsPinLaw" (some 0) with
  accessFlags := 49
  interfaces := #[]
  cf := some (fileOf pool1 36 #[] #[{ accessFlags := 2, nameIndex := 5, descriptorIndex := 6, attributes := #[] }, { accessFlags := 9, nameIndex := 40, descriptorIndex := 41, attributes := #[] }] 49 2 #[] #[])
  fields := #[]
  methods := #[k1m0, k1m1]
  instanceTypes := #[]
  staticTypes := #[]
  resolved := Array.replicate 45 none
  statics := none }

def pool2 : Array CpInfo := pool [(1, .class_ 2), (0, u "java/lang/constant/Constable"), (0, .class_ 4), (0, u "java/lang/Object")] 6

/-- java/lang/constant/Constable -/
def k2 : Class := { plain "java/lang/constant/Constable" (some 0) with
  accessFlags := 1537
  interfaces := #[]
  cf := some (fileOf pool2 1 #[] #[] 1537 3 #[] #[])
  fields := #[]
  methods := #[]
  instanceTypes := #[]
  staticTypes := #[]
  resolved := Array.replicate 11 none
  statics := none }

def pool3 : Array CpInfo := pool [(1, .class_ 2), (0, u "java/lang/Comparable"), (0, .class_ 4), (0, u "java/lang/Object")] 7

/-- java/lang/Comparable -/
def k3 : Class := { plain "java/lang/Comparable" (some 0) with
  accessFlags := 1537
  interfaces := #[]
  cf := some (fileOf pool3 1 #[] #[] 1537 3 #[] #[])
  fields := #[]
  methods := #[]
  instanceTypes := #[]
  staticTypes := #[]
  resolved := Array.replicate 12 none
  statics := none }

def pool4 : Array CpInfo := pool [(1, .class_ 2), (0, u "java/io/Serializable"), (0, .class_ 4), (0, u "java/lang/Object")] 2

/-- java/io/Serializable -/
def k4 : Class := { plain "java/io/Serializable" (some 0) with
  accessFlags := 1537
  interfaces := #[]
  cf := some (fileOf pool4 1 #[] #[] 1537 3 #[] #[])
  fields := #[]
  methods := #[]
  instanceTypes := #[]
  staticTypes := #[]
  resolved := Array.replicate 7 none
  statics := none }

def pool5 : Array CpInfo := pool [(2, .class_ 4), (1, u "java/lang/Enum"), (0, u "name"), (0, u "Ljava/lang/String;"), (2, u "ordinal"), (0, u "I"), (1, .class_ 14), (1, u "java/lang/Object"), (4, u "hash"), (86, .class_ 108), (1, u "java/lang/Enum$EnumDesc"), (2, .class_ 112), (0, u "java/lang/constant/Constable"), (0, .class_ 114), (0, u "java/lang/Comparable"), (0, .class_ 116), (0, u "java/io/Serializable")] 87

/-- java/lang/Enum -/
def k5 : Class := { plain "java/lang/Enum" (some 0) with
  accessFlags := 1057
  interfaces := #[2, 3, 4]
  cf := some (fileOf pool5 2 #[.nestMembers #[106]] #[] 1057 12 #[111, 113, 115] #[{ accessFlags := 18, nameIndex := 5, descriptorIndex := 6, attributes := #[] }, { accessFlags := 18, nameIndex := 9, descriptorIndex := 10, attributes := #[] }, { accessFlags := 2, nameIndex := 19, descriptorIndex := 10, attributes := #[] }])
  fields := #[{ name := "name", type := (.object "java/lang/String"), accessFlags := 18, slot := 0, constantValue := 0 }, { name := "ordinal", type := .int, accessFlags := 18, slot := 1, constantValue := 0 }, { name := "hash", type := .int, accessFlags := 2, slot := 2, constantValue := 0 }]
  methods := #[]
  instanceTypes := #[(.object "java/lang/String"), .int, .int]
  staticTypes := #[]
  resolved := Array.replicate 204 none
  statics := none }

def pool6 : Array CpInfo := pool [(1, .class_ 2), (0, u "com/example/fair_mutex/fairmutex/Catalog"), (2, u "PETERSON"), (0, u "Lcom/example/fair_mutex/fairmutex/Catalog;"), (2, u "TOURNAMENT"), (2, u "FAIR_TOURNAMENT"), (2, u "ONE_BIT"), (2, u "THREE_BIT"), (2, u "SEMAPHORE"), (2, u "SPLIT_SEMAPHORE"), (2, u "$VALUES"), (0, u "[Lcom/example/fair_mutex/fairmutex/Catalog;"), (6, .class_ 37), (1, u "java/lang/Enum"), (8, u "name"), (0, u "Ljava/lang/String;"), (0, .fieldref 1 49), (0, .nameAndType 50 51), (0, u "minThreads"), (0, u "I"), (0, .fieldref 1 53), (0, .nameAndType 54 51), (0, u "maxThreads"), (2, u "declared"), (0, u "Ljava/util/Set;"), (2, u "declaredBound"), (0, u "Ljava/util/function/IntFunction;"), (2, u "lock"), (244, u "supports"), (0, u "(I)Z")] 104

def k6c0 : Code := { maxStack := 2, maxLocals := 2, code := prog_7_method_8_code, exceptionTable := #[], attributes := #[] }
def k6m0 : Method := { name := "supports", desc := "(I)Z", sig := { parameters := [.int], returnType := some .boolean }, accessFlags := 0, code := some k6c0 }
/-- com/example/fair_mutex/fairmutex/Catalog -/
def k6 : Class := { plain "com/example/fair_mutex/fairmutex/Catalog" (some 5) with
  accessFlags := 16432
  interfaces := #[]
  cf := some (fileOf pool6 1 #[] #[{ accessFlags := 0, nameIndex := 310, descriptorIndex := 311, attributes := #[] }] 16432 35 #[] #[{ accessFlags := 16409, nameIndex := 5, descriptorIndex := 6, attributes := #[] }, { accessFlags := 16409, nameIndex := 9, descriptorIndex := 6, attributes := #[] }, { accessFlags := 16409, nameIndex := 12, descriptorIndex := 6, attributes := #[] }, { accessFlags := 16409, nameIndex := 15, descriptorIndex := 6, attributes := #[] }, { accessFlags := 16409, nameIndex := 18, descriptorIndex := 6, attributes := #[] }, { accessFlags := 16409, nameIndex := 21, descriptorIndex := 6, attributes := #[] }, { accessFlags := 16409, nameIndex := 24, descriptorIndex := 6, attributes := #[] }, { accessFlags := 18, nameIndex := 46, descriptorIndex := 47, attributes := #[] }, { accessFlags := 18, nameIndex := 50, descriptorIndex := 51, attributes := #[] }, { accessFlags := 18, nameIndex := 54, descriptorIndex := 51, attributes := #[] }, { accessFlags := 18, nameIndex := 57, descriptorIndex := 58, attributes := #[] }, { accessFlags := 18, nameIndex := 61, descriptorIndex := 62, attributes := #[] }, { accessFlags := 18, nameIndex := 65, descriptorIndex := 62, attributes := #[] }, { accessFlags := 4122, nameIndex := 27, descriptorIndex := 28, attributes := #[] }])
  fields := #[{ name := "PETERSON", type := (.object "com/example/fair_mutex/fairmutex/Catalog"), accessFlags := 16409, slot := 0, constantValue := 0 }, { name := "TOURNAMENT", type := (.object "com/example/fair_mutex/fairmutex/Catalog"), accessFlags := 16409, slot := 1, constantValue := 0 }, { name := "FAIR_TOURNAMENT", type := (.object "com/example/fair_mutex/fairmutex/Catalog"), accessFlags := 16409, slot := 2, constantValue := 0 }, { name := "ONE_BIT", type := (.object "com/example/fair_mutex/fairmutex/Catalog"), accessFlags := 16409, slot := 3, constantValue := 0 }, { name := "THREE_BIT", type := (.object "com/example/fair_mutex/fairmutex/Catalog"), accessFlags := 16409, slot := 4, constantValue := 0 }, { name := "SEMAPHORE", type := (.object "com/example/fair_mutex/fairmutex/Catalog"), accessFlags := 16409, slot := 5, constantValue := 0 }, { name := "SPLIT_SEMAPHORE", type := (.object "com/example/fair_mutex/fairmutex/Catalog"), accessFlags := 16409, slot := 6, constantValue := 0 }, { name := "name", type := (.object "java/lang/String"), accessFlags := 18, slot := 3, constantValue := 0 }, { name := "minThreads", type := .int, accessFlags := 18, slot := 4, constantValue := 0 }, { name := "maxThreads", type := .int, accessFlags := 18, slot := 5, constantValue := 0 }, { name := "declared", type := (.object "java/util/Set"), accessFlags := 18, slot := 6, constantValue := 0 }, { name := "declaredBound", type := (.object "java/util/function/IntFunction"), accessFlags := 18, slot := 7, constantValue := 0 }, { name := "lock", type := (.object "java/util/function/IntFunction"), accessFlags := 18, slot := 8, constantValue := 0 }, { name := "$VALUES", type := (.array (.object "com/example/fair_mutex/fairmutex/Catalog")), accessFlags := 4122, slot := 7, constantValue := 0 }]
  methods := #[k6m0]
  instanceTypes := #[(.object "java/lang/String"), .int, .int, (.object "java/lang/String"), .int, .int, (.object "java/util/Set"), (.object "java/util/function/IntFunction"), (.object "java/util/function/IntFunction")]
  staticTypes := #[(.object "com/example/fair_mutex/fairmutex/Catalog"), (.object "com/example/fair_mutex/fairmutex/Catalog"), (.object "com/example/fair_mutex/fairmutex/Catalog"), (.object "com/example/fair_mutex/fairmutex/Catalog"), (.object "com/example/fair_mutex/fairmutex/Catalog"), (.object "com/example/fair_mutex/fairmutex/Catalog"), (.object "com/example/fair_mutex/fairmutex/Catalog"), (.array (.object "com/example/fair_mutex/fairmutex/Catalog"))]
  resolved := Array.replicate 416 none
  statics := some 0 }

def pool7 : Array CpInfo := pool [(1, u "java/lang/Cloneable"), (0, .class_ 1), (0, u "java/lang/Object"), (0, .class_ 3)] 3

/-- java/lang/Cloneable -/
def k7 : Class := { plain "java/lang/Cloneable" (some 0) with
  accessFlags := 1537
  interfaces := #[]
  cf := some (fileOf pool7 2 #[] #[] 1537 4 #[] #[])
  fields := #[]
  methods := #[]
  instanceTypes := #[]
  staticTypes := #[]
  resolved := Array.replicate 8 none
  statics := none }

/-- the primitive byte -/
def k8 : Class := { plain "byte" none with kind := .primitive 'B', accessFlags := 0x411 }
/-- [B -/
def k9 : Class := { plain "[B" (some 0) with kind := .array 8 .byte, interfaces := #[7, 4], accessFlags := 1041 }

/-- the primitive int -/
def k10 : Class := { plain "int" none with kind := .primitive 'I', accessFlags := 0x411 }
/-- [I -/
def k11 : Class := { plain "[I" (some 0) with kind := .array 10 .int, interfaces := #[7, 4], accessFlags := 1041 }

def heap : Heap := #[{ cls := 6, slots := #[.ref 1, .ref 2, .ref 3, .ref 4, .ref 5, .ref 6, .ref 7, .null], vm := .statics 6 },
  { cls := 6, slots := #[.null, .int 0, .int 0, .null, .int 2, .int 2, .null, .null, .null], vm := .none },
  { cls := 6, slots := #[.null, .int 0, .int 0, .null, .int 2, .int 5, .null, .null, .null], vm := .none },
  { cls := 6, slots := #[.null, .int 0, .int 0, .null, .int 2, .int 5, .null, .null, .null], vm := .none },
  { cls := 6, slots := #[.null, .int 0, .int 0, .null, .int 2, .int 5, .null, .null, .null], vm := .none },
  { cls := 6, slots := #[.null, .int 0, .int 0, .null, .int 2, .int 3, .null, .null, .null], vm := .none },
  { cls := 6, slots := #[.null, .int 0, .int 0, .null, .int 2, .int 5, .null, .null, .null], vm := .none },
  { cls := 6, slots := #[.null, .int 0, .int 0, .null, .int 2, .int 5, .null, .null, .null], vm := .none }]
def classes : Array Class := #[k0, k1, k2, k3, k4, k5, k6, k7, k8, k9, k10, k11]
def interned : List (Array UInt16 × Addr) := []
def slotsUsed : Nat := 71
def theMethod : MethodId := ⟨1, 1⟩
def args0 : Array Value := #[.int 5, .int 5, .int 5]
def aboutOver (below : List Frame) : State where
  vm := { classes := classes, interned := interned.toArray }
  heap := heap
  slotsUsed := slotsUsed
  threads := #[{ frames := .invoking theMethod args0 :: below }]
def below0 : List Frame := [.native { method := ⟨0, 0⟩, args := #[] }]
def about1 : State := aboutOver below0
def p0 : Program := .bare "" "" ""
def e0 : Env := launch0.env 0 0 0
theorem w_frames : about1.frames = Frame.invoking theMethod args0 :: below0 := rfl
set_option maxRecDepth 65536 in
theorem w_args : argsFit about1.vm theMethod args0 = true := by decide +kernel
set_option maxRecDepth 65536 in
theorem w_heap : heapFits about1 = true := by decide +kernel
set_option maxRecDepth 65536 in
theorem w_runnable : about1.curStatus? = some .runnable := by decide +kernel
set_option maxRecDepth 65536 in
theorem w_alone : about1.alone = true := by decide +kernel
set_option maxRecDepth 65536 in
theorem w_named : about1.methodNamed? x = some theMethod := by decide +kernel
set_option maxRecDepth 65536 in
theorem w_hears : about1.hears theMethod below0 = true := by decide +kernel
set_option maxRecDepth 65536 in
theorem w_ripe : about1.ripe theMethod args0 below0 = true := by decide +kernel
theorem w_running : about1.status = .running := rfl
set_option maxRecDepth 65536 in
theorem w_room : about1.hasRoom e0.platform room_1 = true :=
  launch0.hasRoom_least _ room_1 (by decide +kernel) (by decide +kernel) (by decide +kernel) (by decide +kernel) (by decide +kernel) (by decide +kernel)
theorem allAtoms_all (ts : List Jvm.Cond) (a : Array Jvm.Value) (st : Jvm.State) : (allAtoms ts).before a st = ts.all (fun c => c.before a st) := by
  induction ts with
  | nil => rfl
  | cons c t ih =>
    show (Jvm.Cond.and c (allAtoms t)).before a st = _
    rw [Jvm.Cond.before_and, ih, List.all_cons]
def words1 : List Jvm.Cond := Jvm.Cond.code x code maxLocals ret :: tables_1
/-- a 'code' word, met by the world's own term for the bytes: nothing is compared byte by byte -/
theorem code_word {y : MethodName} {bytes : ByteArray} {mx : Nat} {rt : Option FieldType} {a : Array Value} {s : State} {m : MethodId} {meth : Method} {c : Code} (h1 : s.methodNamed? y = some m) (h2 : s.vm.method? m = some meth) (h3 : meth.code = some c) (h4 : c.code = bytes)
    (h5 : (c.maxLocals == mx && c.exceptionTable.isEmpty && decide (c.maxStack ≤ mostOperands) && decide (meth.sig.returnType = rt) && !meth.locks && decide (parseMethodDescriptor y.desc = some meth.sig)) = true) : (Jvm.Cond.code y bytes mx rt).before a s = true := by
  simp only [Bool.and_eq_true, beq_iff_eq, Bool.not_eq_true', decide_eq_true_eq] at h5
  obtain ⟨⟨⟨⟨⟨g1, g2⟩, g3⟩, g4⟩, g5⟩, g6⟩ := h5
  simp [Cond.before, Cond.holds, Cond.value, h1, h2, h3, h4, g1, g2, g3, g4, g5, g6]
def isCode : Jvm.Cond → Bool
  | .code _ _ _ _ => true
  | _ => false
theorem all_split {L : List Jvm.Cond} {P : Jvm.Cond → Bool} (h1 : L.all (fun c => isCode c || P c) = true) (h2 : ∀ c ∈ L.filter isCode, P c = true) : L.all P = true := by
  refine List.all_eq_true.mpr fun c hc => ?_
  have h := List.all_eq_true.mp h1 c hc
  rcases Bool.eq_false_or_eq_true (isCode c) with hi | hi
  · exact h2 c (List.mem_filter.mpr ⟨hc, hi⟩)
  · simpa [hi] using h
set_option maxRecDepth 65536 in
theorem w_c0 : (Jvm.Cond.code x code maxLocals ret).before args0 about1 = true := code_word (m := ⟨1, 1⟩) (meth := k1m1) (c := k1c1) (by decide +kernel) rfl rfl rfl (by decide +kernel)
set_option maxRecDepth 65536 in
theorem w_c1 : (Jvm.Cond.code ({ cls := "com/example/fair_mutex/fairmutex/Catalog", name := "supports", desc := "(I)Z" } : Jvm.MethodName) prog_7_method_8_code (2 : Nat) (Option.some Jvm.ClassFile.FieldType.boolean)).before args0 about1 = true := code_word (m := ⟨6, 0⟩) (meth := k6m0) (c := k6c0) (by decide +kernel) rfl rfl rfl (by decide +kernel)
def codes1 : List Jvm.Cond := [Jvm.Cond.code x code maxLocals ret, Jvm.Cond.code ({ cls := "com/example/fair_mutex/fairmutex/Catalog", name := "supports", desc := "(I)Z" } : Jvm.MethodName) prog_7_method_8_code (2 : Nat) (Option.some Jvm.ClassFile.FieldType.boolean)]
set_option maxRecDepth 65536 in
theorem codes_eq : words1.filter isCode = codes1 := rfl
theorem w_codes : ∀ c ∈ words1.filter isCode, c.before args0 about1 = true := by
  rw [codes_eq]
  intro c hc
  simp only [codes1, List.mem_cons, List.not_mem_nil, or_false] at hc
  rcases hc with rfl | rfl
  · exact w_c0
  · exact w_c1
set_option maxRecDepth 65536 in
theorem w_t1 : (words1.take 24).all (fun c => isCode c || c.before args0 about1) = true := by decide +kernel
set_option maxRecDepth 65536 in
theorem w_t2 : (words1.drop 24).all (fun c => isCode c || c.before args0 about1) = true := by decide +kernel
theorem w_tables : (allAtoms (Jvm.Cond.code x code maxLocals ret :: tables_1)).before args0 about1 = true := by
  rw [allAtoms_all]
  show words1.all (fun c => c.before args0 about1) = true
  refine all_split ?_ w_codes
  rw [← List.take_append_drop 24 words1, List.all_append, w_t1, w_t2]
  rfl
set_option maxRecDepth 65536 in
theorem w_case : (Jvm.Cond.and given_1 narrow_1).before args0 about1 = true := by decide +kernel
theorem w_applies : (headSpec (Jvm.Cond.code x code maxLocals ret :: tables_1) room_1).applies x e0.platform about1 = true :=
  (Spec.applies_iff w_frames).mpr ⟨w_running, w_runnable, w_alone, w_named, w_hears, w_ripe, w_room, w_tables⟩
theorem atStart : AtStart classFile x code maxLocals ret World_1 tables_1 room_1 Calls_1 rest_1 Pre_1 launch0 p0 e0 about1 theMethod args0 below0 :=
  ⟨lists_1, trivial, launch0.admits_env _ _ _, launch0.least_env, fairChoices_fair.cas, fairChoices_fair.clock, w_frames, w_args, w_heap, w_applies, trivial, trivial, w_case⟩
end start1
theorem witness_1 : WitnessClaimed_1 := ⟨start1.p0, start1.e0, start1.about1, start1.theMethod, start1.args0, start1.below0, start1.atStart⟩
end Jvm.Pilot.@@N@@
