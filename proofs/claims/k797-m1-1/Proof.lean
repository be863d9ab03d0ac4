import JvmDerived
import JvmDerived.Pilot.@@N@@Statement
import JvmDerived.Pilot.@@N@@Code
set_option linter.unusedVariables false
set_option linter.unusedSimpArgs false
namespace Jvm.Pilot.@@N@@
open Jvm Jvm.ClassFile Sem Op Lib Jvm.Free Jvm.Stand Jvm.LawKit Jvm.RoadKit Bundle Jvm.Pilot.@@N@@.Jvm.D
section Own
variable {p : Program} {l : Launch} {e : Env} {R : Room} {s : State} {m : MethodId} {args : Array Value} {below : List Frame} {meth : Method} {c : Code} {T T' : State} {locs : List Loc} {cells slots : Nat} {QQ : Option Value → Heap → List Loc → Prop} {kc ks : Nat} {f f' : JFrame}
/-- from here the run comes to the method's return, with what QQ says -/
def own_Goes (p : Program) (e : Env) (below : List Frame) (s : State) (QQ : Option Value → Heap → List Loc → Prop) (kc ks : Nat) (T : State) (f : JFrame) : Prop :=
  ∃ s₂ o, Steps p.tables e below (T.setTop f) s₂ ∧ s₂.status = .running ∧ Ended s₂ below o ∧ ∃ v L, o = .returned v ∧ QQ v s₂.heap L ∧ FrameEnd s o s₂ L kc ks
theorem own_step (st : ∀ target, Steps p.tables e below (T'.setTop f') target → Steps p.tables e below (T.setTop f) target) (h : own_Goes p e below s QQ kc ks T' f') : own_Goes p e below s QQ kc ks T f := by
  obtain ⟨s₂, o, h1, r⟩ := h
  exact ⟨s₂, o, st _ h1, r⟩
theorem own_jump (st : Steps p.tables e below (T.setTop f) (T'.setTop f')) (h : own_Goes p e below s QQ kc ks T' f') : own_Goes p e below s QQ kc ks T f := by
  obtain ⟨s₂, o, h1, r⟩ := h
  exact ⟨s₂, o, st.trans h1, r⟩
theorem own_out {v : Option Value} (X : Stand p l e R s m args below meth c T locs cells slots) (hlk : meth.locks = false) (hv : meth.sig.returnType = none → v = none)
    (st : ∀ fs, (∀ (f : JFrame) (acts : List Action), f.method = m → f.locked = none → f.entered = [] → (doReturn e (T.setTop f) acts v).1 = T.setFrames fs) → Steps p.tables e below (T.setTop f) (T.setFrames fs)) (hc : cells ≤ kc) (hs : slots ≤ ks) (hq : QQ v T.heap locs) : own_Goes p e below s QQ kc ks T f := by
  obtain ⟨fs, hr, hrun, hended, hW, hsame⟩ := X.leave (v := v) hv hlk
  exact ⟨_, _, st fs hr, hrun, hended, v, locs, rfl, hq, ⟨_, rfl⟩, hW, hsame.mono hc hs⟩
theorem own_staKeep {Z : State} {h h' : Heap} {C n d : String} {v : Value} {ws : List Addr} (F : Sta Z h C n d v) (K : Keep h h' ws) (q : ∀ x ∈ ws, ∃ cell : Cell, h[x]? = some cell ∧ cell.vm.isStatics = false) : Sta Z h' C n d v := by
  obtain ⟨cf, i, k, f, st, cell, h1, h2, h3, h4, h5, h6, h7⟩ := F
  refine ⟨cf, i, k, f, st, cell, h1, h2, h3, h4, K.2.1 st cell h5 (fun z => ?_), h6, h7⟩
  obtain ⟨c', g1, g2⟩ := q st z
  rw [h5] at g1
  cases g1
  rw [h6] at g2
  cases g2
theorem own_exaNS {Z : State} {h : Heap} {a : Addr} {C : String} (F : Exa Z h a C) : ∃ cell : Cell, h[a]? = some cell ∧ cell.vm.isStatics = false := by
  obtain ⟨cell, k, h1, -, -, h4, -⟩ := F
  exact ⟨cell, h1, h4⟩
end Own
theorem d3_0 : decode prog_17_method_1_code 0 = .ok (.aload_n 0, 1) := by decide +kernel
theorem d3_1 : decode prog_17_method_1_code 1 = .ok (.invokespecial 3, 3) := by decide +kernel
theorem d3_4 : decode prog_17_method_1_code 4 = .ok (.lload_n 1, 1) := by decide +kernel
theorem d3_5 : decode prog_17_method_1_code 5 = .ok (.lconst 1, 1) := by decide +kernel
theorem d3_6 : decode prog_17_method_1_code 6 = .ok (.lcmp, 1) := by decide +kernel
theorem d3_7 : decode prog_17_method_1_code 7 = .ok (.ifCond .lt 11, 3) := by decide +kernel
theorem d3_10 : decode prog_17_method_1_code 10 = .ok (.lload_n 1, 1) := by decide +kernel
theorem d3_11 : decode prog_17_method_1_code 11 = .ok (.ldc2_w 11, 3) := by decide +kernel
theorem d3_14 : decode prog_17_method_1_code 14 = .ok (.lcmp, 1) := by decide +kernel
theorem d3_15 : decode prog_17_method_1_code 15 = .ok (.ifCond .le 17, 3) := by decide +kernel
theorem d3_32 : decode prog_17_method_1_code 32 = .ok (.lload_n 3, 1) := by decide +kernel
theorem d3_33 : decode prog_17_method_1_code 33 = .ok (.ldc2_w 11, 3) := by decide +kernel
theorem d3_36 : decode prog_17_method_1_code 36 = .ok (.lcmp, 1) := by decide +kernel
theorem d3_37 : decode prog_17_method_1_code 37 = .ok (.ifCond .lt 11, 3) := by decide +kernel
theorem d3_40 : decode prog_17_method_1_code 40 = .ok (.lload_n 3, 1) := by decide +kernel
theorem d3_41 : decode prog_17_method_1_code 41 = .ok (.ldc2_w 22, 3) := by decide +kernel
theorem d3_44 : decode prog_17_method_1_code 44 = .ok (.lcmp, 1) := by decide +kernel
theorem d3_45 : decode prog_17_method_1_code 45 = .ok (.ifCond .le 17, 3) := by decide +kernel
theorem d3_62 : decode prog_17_method_1_code 62 = .ok (.lload 5, 2) := by decide +kernel
theorem d3_64 : decode prog_17_method_1_code 64 = .ok (.lload_n 3, 1) := by decide +kernel
theorem d3_65 : decode prog_17_method_1_code 65 = .ok (.lcmp, 1) := by decide +kernel
theorem d3_66 : decode prog_17_method_1_code 66 = .ok (.ifCond .lt 12, 3) := by decide +kernel
theorem d3_69 : decode prog_17_method_1_code 69 = .ok (.lload 5, 2) := by decide +kernel
theorem d3_71 : decode prog_17_method_1_code 71 = .ok (.ldc2_w 22, 3) := by decide +kernel
theorem d3_74 : decode prog_17_method_1_code 74 = .ok (.lcmp, 1) := by decide +kernel
theorem d3_75 : decode prog_17_method_1_code 75 = .ok (.ifCond .le 19, 3) := by decide +kernel
theorem d3_94 : decode prog_17_method_1_code 94 = .ok (.aload_n 0, 1) := by decide +kernel
theorem d3_95 : decode prog_17_method_1_code 95 = .ok (.lload_n 1, 1) := by decide +kernel
theorem d3_96 : decode prog_17_method_1_code 96 = .ok (.l2i, 1) := by decide +kernel
theorem d3_97 : decode prog_17_method_1_code 97 = .ok (.putfield 28, 3) := by decide +kernel
theorem d3_100 : decode prog_17_method_1_code 100 = .ok (.aload_n 0, 1) := by decide +kernel
theorem d3_101 : decode prog_17_method_1_code 101 = .ok (.lload_n 3, 1) := by decide +kernel
theorem d3_102 : decode prog_17_method_1_code 102 = .ok (.putfield 32, 3) := by decide +kernel
theorem d3_105 : decode prog_17_method_1_code 105 = .ok (.aload_n 0, 1) := by decide +kernel
theorem d3_106 : decode prog_17_method_1_code 106 = .ok (.lload 5, 2) := by decide +kernel
theorem d3_108 : decode prog_17_method_1_code 108 = .ok (.putfield 36, 3) := by decide +kernel
theorem d3_111 : decode prog_17_method_1_code 111 = .ok (.return_, 1) := by decide +kernel
theorem pn_0 : plainName "com/example/kookaburra/kookaburra/core/RetryPolicy" = true := by first | (simp [plainName, overriddenIn]; done) | decide +kernel
theorem ef_3 (m : MethodId) (x0 : Addr) (x1 : Int64) (x2 : Int64) (x3 : Int64) : entryFrame m #[(.ref x0), (.long x1), (.long x2), (.long x3)] 7 = mkF m 0 #[.val (.ref x0), .val (.long x1), .second, .val (.long x2), .second, .val (.long x3), .second] [] := by first | (simp [entryFrame, mkF, argsToLocals, Value.category]; done) | rfl
def Q3 (Z : State) (a1 : Addr) (q2 : Int64) (q3 : Int64) (q4 : Int64) (u1 : Value) (u2 : Value) (u3 : Value) (h0 : Heap) (n0 : Nat) (v : Option Value) (h : Heap) (L : List Loc) : Prop := v = none ∧ Fr n0 L ∧ Keep h0 h [a1] ∧ Exa Z h a1 "com/example/kookaburra/kookaburra/core/RetryPolicy" ∧ Fld Z h a1 "com/example/kookaburra/kookaburra/core/RetryPolicy" "maxAttempts" "I" (.int (q2.toInt32)) ∧ Fld Z h a1 "com/example/kookaburra/kookaburra/core/RetryPolicy" "initialBackoffMillis" "J" (.long q3) ∧ Fld Z h a1 "com/example/kookaburra/kookaburra/core/RetryPolicy" "maxBackoffMillis" "J" (.long q4)
abbrev R3 : Room := { frames := 1, cells := 0, slots := 0, locals := 12 }
set_option maxRecDepth 65536 in
set_option maxHeartbeats 40000000 in
theorem rm3 (l : Launch) (Z : State) (a0 : Array Value) (hw : ∀ d ∈ tables_1, d.before a0 Z = true) (ws : List Jvm.Cond) (a1 : Addr) (q2 : Int64) (q3 : Int64) (q4 : Int64) (u1 : Value) (u2 : Value) (u3 : Value) (h0 : Heap) (n0 : Nat) (Z0 : n0 ≤ h0.size) (E_a1 : Exa Z h0 a1 "com/example/kookaburra/kookaburra/core/RetryPolicy") (F_maxAttempts_a1 : Fld Z h0 a1 "com/example/kookaburra/kookaburra/core/RetryPolicy" "maxAttempts" "I" u1) (F_initialBackoffMillis_a1 : Fld Z h0 a1 "com/example/kookaburra/kookaburra/core/RetryPolicy" "initialBackoffMillis" "J" u2) (F_maxBackoffMillis_a1 : Fld Z h0 a1 "com/example/kookaburra/kookaburra/core/RetryPolicy" "maxBackoffMillis" "J" u3) (g_a1 : n0 ≤ a1) (hp1 : ¬ (q2 < (1 : Int64))) (hp2 : ¬ ((100 : Int64) < q2)) (hp3 : ¬ (q3 < (100 : Int64))) (hp4 : ¬ ((3155760000000 : Int64) < q3)) (hp5 : ¬ (q4 < q3)) (hp6 : ¬ ((3155760000000 : Int64) < q4)) :
    MetFree l (⟨"com/example/kookaburra/kookaburra/core/RetryPolicy", "<init>", "(JJJ)V"⟩ : MethodName) (head1 (Jvm.Cond.code (⟨"com/example/kookaburra/kookaburra/core/RetryPolicy", "<init>", "(JJJ)V"⟩ : MethodName) prog_17_method_1_code 7 none :: ws) R3) (fun a U => a = #[(.ref a1), (.long q2), (.long q3), (.long q4)] ∧ Z.Warmed39 U.vm ∧ U.heap = h0) (fun _ _ _ _ _ => True) (fun _ U o U' => ∃ v L, o = .returned v ∧ Q3 Z a1 q2 q3 q4 u1 u2 u3 h0 n0 v U'.heap L ∧ FrameEnd U o U' L R3.cells R3.slots) := by
  refine MetFree.of_bodySF (plainFor_of_name pn_0) hisR ?_
  intro p e s m args below meth c s₁ Bd hml0 hP hK
  obtain ⟨rfl, hZ, hh⟩ := hP
  have hx := Bd.exec
  have hby := Bd.bytes
  have hlk : meth.locks = false := BodyLoose.notSynchronized Bd
  have hml : c.maxLocals = 7 := hml0
  have hown : s.vm.findClass "com/example/kookaburra/kookaburra/core/RetryPolicy" = some m.cls := findClass_of_methodNamed Bd.named
  have hnm := (name_of_methodNamed Bd.named Bd.method).1
  have X0 : Stand p l e R3 s m #[(.ref a1), (.long q2), (.long q3), (.long q4)] below meth c s₁ [] 0 0 := Stand.of_body Bd
  have e0 : s₁.heap = h0 := by rw [← hh, Bd.state]; rfl
  have N0 := Fr.nil n0
  show own_Goes p e below s (Q3 Z a1 q2 q3 q4 u1 u2 u3 h0 n0) R3.cells R3.slots s₁ (entryFrame m #[(.ref a1), (.long q2), (.long q3), (.long q4)] 7)
  rw [ef_3 m a1 q2 q3 q4]
  refine own_step (f' := (mkF m 1 #[.val (.ref a1), .val (.long q2), .second, .val (.long q3), .second, .val (.long q4), .second] [(.ref a1)])) (fun _ k => XS.aloadN X0.here hx rfl (hb hby d3_0) rfl rfl k) ?_
  obtain ⟨T1, X1, e1, st1⟩ := initO X0 hx hZ hown (hw _ (List.mem_of_getElem? (i := 18) rfl)) (hw _ (List.mem_of_getElem? (i := 19) rfl)) (hw _ (List.mem_of_getElem? (i := 20) rfl)) e0 (g := (mkF m 1 #[.val (.ref a1), .val (.long q2), .second, .val (.long q3), .second, .val (.long q4), .second] [(.ref a1)])) rfl (by rw [hml]; rfl) rfl (hb hby d3_1) (by decide) (W := 0) (by show 2 * 0 + _ ≤ _; exact Nat.le_of_eq rfl) (by decide)
  refine own_step (f' := (mkF m 4 #[.val (.ref a1), .val (.long q2), .second, .val (.long q3), .second, .val (.long q4), .second] [])) st1 ?_
  refine own_step (f' := (mkF m 5 #[.val (.ref a1), .val (.long q2), .second, .val (.long q3), .second, .val (.long q4), .second] [(.long q2)])) (fun _ k => XS.lloadN X1.here hx rfl (hb hby d3_4) rfl k) ?_
  refine own_step (f' := (mkF m 6 #[.val (.ref a1), .val (.long q2), .second, .val (.long q3), .second, .val (.long q4), .second] [(.long (1 : Int64)), (.long q2)])) (fun _ k => XS.lconst X1.here hx rfl (hb hby d3_5) k) ?_
  refine own_step (f' := (mkF m 7 #[.val (.ref a1), .val (.long q2), .second, .val (.long q3), .second, .val (.long q4), .second] [(.int (lcmpW q2 (1 : Int64)))])) (fun _ k => XS.lcmp X1.here hx rfl (hb hby d3_6) rfl k) ?_
  have hf7_2 : ¬ (q2 < (1 : Int64)) := hp1
  refine own_step (f' := (mkF m 10 #[.val (.ref a1), .val (.long q2), .second, .val (.long q3), .second, .val (.long q4), .second] [])) (fun _ k => XS.ifNo X1.here hx rfl (hb hby d3_7) rfl ((if0 _ _).trans (flt (fun q => hf7_2 ((lw_lt _ _).mp q))).1) k) ?_
  refine own_step (f' := (mkF m 11 #[.val (.ref a1), .val (.long q2), .second, .val (.long q3), .second, .val (.long q4), .second] [(.long q2)])) (fun _ k => XS.lloadN X1.here hx rfl (hb hby d3_10) rfl k) ?_
  refine own_step (f' := (mkF m 14 #[.val (.ref a1), .val (.long q2), .second, .val (.long q3), .second, .val (.long q4), .second] [(.long (100 : Int64)), (.long q2)])) (fun _ k => X1.ldc2Long hx hown (mvT hZ (hw _ (List.mem_of_getElem? (i := 21) rfl))) (g := (mkF m 11 #[.val (.ref a1), .val (.long q2), .second, .val (.long q3), .second, .val (.long q4), .second] [(.long q2)])) rfl (hb hby d3_11) _ k) ?_
  refine own_step (f' := (mkF m 15 #[.val (.ref a1), .val (.long q2), .second, .val (.long q3), .second, .val (.long q4), .second] [(.int (lcmpW q2 (100 : Int64)))])) (fun _ k => XS.lcmp X1.here hx rfl (hb hby d3_14) rfl k) ?_
  have hf15_3 : ¬ ((100 : Int64) < q2) := hp2
  refine own_step (f' := (mkF m 32 #[.val (.ref a1), .val (.long q2), .second, .val (.long q3), .second, .val (.long q4), .second] [])) (fun _ k => XS.ifYes X1.here hx rfl (pc0 := 15) (pc' := 32) rfl (hb hby d3_15) rfl ((if0 _ _).trans (flt (fun q => hf15_3 ((lw_gt _ _).mp q))).2.2.2) (by decide) (by decide) k) ?_
  refine own_step (f' := (mkF m 33 #[.val (.ref a1), .val (.long q2), .second, .val (.long q3), .second, .val (.long q4), .second] [(.long q3)])) (fun _ k => XS.lloadN X1.here hx rfl (hb hby d3_32) rfl k) ?_
  refine own_step (f' := (mkF m 36 #[.val (.ref a1), .val (.long q2), .second, .val (.long q3), .second, .val (.long q4), .second] [(.long (100 : Int64)), (.long q3)])) (fun _ k => X1.ldc2Long hx hown (mvT hZ (hw _ (List.mem_of_getElem? (i := 21) rfl))) (g := (mkF m 33 #[.val (.ref a1), .val (.long q2), .second, .val (.long q3), .second, .val (.long q4), .second] [(.long q3)])) rfl (hb hby d3_33) _ k) ?_
  refine own_step (f' := (mkF m 37 #[.val (.ref a1), .val (.long q2), .second, .val (.long q3), .second, .val (.long q4), .second] [(.int (lcmpW q3 (100 : Int64)))])) (fun _ k => XS.lcmp X1.here hx rfl (hb hby d3_36) rfl k) ?_
  have hf37_4 : ¬ (q3 < (100 : Int64)) := hp3
  refine own_step (f' := (mkF m 40 #[.val (.ref a1), .val (.long q2), .second, .val (.long q3), .second, .val (.long q4), .second] [])) (fun _ k => XS.ifNo X1.here hx rfl (hb hby d3_37) rfl ((if0 _ _).trans (flt (fun q => hf37_4 ((lw_lt _ _).mp q))).1) k) ?_
  refine own_step (f' := (mkF m 41 #[.val (.ref a1), .val (.long q2), .second, .val (.long q3), .second, .val (.long q4), .second] [(.long q3)])) (fun _ k => XS.lloadN X1.here hx rfl (hb hby d3_40) rfl k) ?_
  refine own_step (f' := (mkF m 44 #[.val (.ref a1), .val (.long q2), .second, .val (.long q3), .second, .val (.long q4), .second] [(.long (3155760000000 : Int64)), (.long q3)])) (fun _ k => X1.ldc2Long hx hown (mvT hZ (hw _ (List.mem_of_getElem? (i := 22) rfl))) (g := (mkF m 41 #[.val (.ref a1), .val (.long q2), .second, .val (.long q3), .second, .val (.long q4), .second] [(.long q3)])) rfl (hb hby d3_41) _ k) ?_
  refine own_step (f' := (mkF m 45 #[.val (.ref a1), .val (.long q2), .second, .val (.long q3), .second, .val (.long q4), .second] [(.int (lcmpW q3 (3155760000000 : Int64)))])) (fun _ k => XS.lcmp X1.here hx rfl (hb hby d3_44) rfl k) ?_
  have hf45_5 : ¬ ((3155760000000 : Int64) < q3) := hp4
  refine own_step (f' := (mkF m 62 #[.val (.ref a1), .val (.long q2), .second, .val (.long q3), .second, .val (.long q4), .second] [])) (fun _ k => XS.ifYes X1.here hx rfl (pc0 := 45) (pc' := 62) rfl (hb hby d3_45) rfl ((if0 _ _).trans (flt (fun q => hf45_5 ((lw_gt _ _).mp q))).2.2.2) (by decide) (by decide) k) ?_
  refine own_step (f' := (mkF m 64 #[.val (.ref a1), .val (.long q2), .second, .val (.long q3), .second, .val (.long q4), .second] [(.long q4)])) (fun _ k => XS.lload X1.here hx rfl (hb hby d3_62) rfl k) ?_
  refine own_step (f' := (mkF m 65 #[.val (.ref a1), .val (.long q2), .second, .val (.long q3), .second, .val (.long q4), .second] [(.long q3), (.long q4)])) (fun _ k => XS.lloadN X1.here hx rfl (hb hby d3_64) rfl k) ?_
  refine own_step (f' := (mkF m 66 #[.val (.ref a1), .val (.long q2), .second, .val (.long q3), .second, .val (.long q4), .second] [(.int (lcmpW q4 q3))])) (fun _ k => XS.lcmp X1.here hx rfl (hb hby d3_65) rfl k) ?_
  have hf66_6 : ¬ (q4 < q3) := hp5
  refine own_step (f' := (mkF m 69 #[.val (.ref a1), .val (.long q2), .second, .val (.long q3), .second, .val (.long q4), .second] [])) (fun _ k => XS.ifNo X1.here hx rfl (hb hby d3_66) rfl ((if0 _ _).trans (flt (fun q => hf66_6 ((lw_lt _ _).mp q))).1) k) ?_
  refine own_step (f' := (mkF m 71 #[.val (.ref a1), .val (.long q2), .second, .val (.long q3), .second, .val (.long q4), .second] [(.long q4)])) (fun _ k => XS.lload X1.here hx rfl (hb hby d3_69) rfl k) ?_
  refine own_step (f' := (mkF m 74 #[.val (.ref a1), .val (.long q2), .second, .val (.long q3), .second, .val (.long q4), .second] [(.long (3155760000000 : Int64)), (.long q4)])) (fun _ k => X1.ldc2Long hx hown (mvT hZ (hw _ (List.mem_of_getElem? (i := 22) rfl))) (g := (mkF m 71 #[.val (.ref a1), .val (.long q2), .second, .val (.long q3), .second, .val (.long q4), .second] [(.long q4)])) rfl (hb hby d3_71) _ k) ?_
  refine own_step (f' := (mkF m 75 #[.val (.ref a1), .val (.long q2), .second, .val (.long q3), .second, .val (.long q4), .second] [(.int (lcmpW q4 (3155760000000 : Int64)))])) (fun _ k => XS.lcmp X1.here hx rfl (hb hby d3_74) rfl k) ?_
  have hf75_7 : ¬ ((3155760000000 : Int64) < q4) := hp6
  refine own_step (f' := (mkF m 94 #[.val (.ref a1), .val (.long q2), .second, .val (.long q3), .second, .val (.long q4), .second] [])) (fun _ k => XS.ifYes X1.here hx rfl (pc0 := 75) (pc' := 94) rfl (hb hby d3_75) rfl ((if0 _ _).trans (flt (fun q => hf75_7 ((lw_gt _ _).mp q))).2.2.2) (by decide) (by decide) k) ?_
  refine own_step (f' := (mkF m 95 #[.val (.ref a1), .val (.long q2), .second, .val (.long q3), .second, .val (.long q4), .second] [(.ref a1)])) (fun _ k => XS.aloadN X1.here hx rfl (hb hby d3_94) rfl rfl k) ?_
  refine own_step (f' := (mkF m 96 #[.val (.ref a1), .val (.long q2), .second, .val (.long q3), .second, .val (.long q4), .second] [(.long q2), (.ref a1)])) (fun _ k => XS.lloadN X1.here hx rfl (hb hby d3_95) rfl k) ?_
  refine own_step (f' := (mkF m 97 #[.val (.ref a1), .val (.long q2), .second, .val (.long q3), .second, .val (.long q4), .second] [(.int (q2.toInt32)), (.ref a1)])) (fun _ k => XS.l2i X1.here hx rfl (hb hby d3_96) rfl k) ?_
  obtain ⟨T8, h8, X8, e8, W8, st8⟩ := putF X1 hx hZ hown (host := "") (Or.inl (hw _ (List.mem_of_getElem? (i := 23) rfl))) Via.refl e1 F_maxAttempts_a1 E_a1 (Or.inr ⟨(hw _ (List.mem_of_getElem? (i := 24) rfl)), rfl, hnm⟩) (hw _ (List.mem_of_getElem? (i := 13) rfl)) (ty := .int) (by decide) rfl rfl (g := (mkF m 97 #[.val (.ref a1), .val (.long q2), .second, .val (.long q3), .second, .val (.long q4), .second] [(.int (q2.toInt32)), (.ref a1)])) rfl rfl (hb hby d3_97)
  obtain ⟨Lo8, X8, N8⟩ : ∃ K, Stand p l e R3 s m #[(.ref a1), (.long q2), (.long q3), (.long q4)] below meth c T8 K 0 0 ∧ Fr n0 K := ⟨_, X8, (Fr.snoc X8 N0 g_a1)⟩
  refine own_step (f' := (mkF m 100 #[.val (.ref a1), .val (.long q2), .second, .val (.long q3), .second, .val (.long q4), .second] [])) st8 ?_
  refine own_step (f' := (mkF m 101 #[.val (.ref a1), .val (.long q2), .second, .val (.long q3), .second, .val (.long q4), .second] [(.ref a1)])) (fun _ k => XS.aloadN X8.here hx rfl (hb hby d3_100) rfl rfl k) ?_
  refine own_step (f' := (mkF m 102 #[.val (.ref a1), .val (.long q2), .second, .val (.long q3), .second, .val (.long q4), .second] [(.long q3), (.ref a1)])) (fun _ k => XS.lloadN X8.here hx rfl (hb hby d3_101) rfl k) ?_
  obtain ⟨T9, h9, X9, e9, W9, st9⟩ := putF X8 hx hZ hown (host := "") (Or.inl (hw _ (List.mem_of_getElem? (i := 25) rfl))) Via.refl e8 (F_initialBackoffMillis_a1.other W8 (Or.inr (slot_ne (Or.inr (hw _ (List.mem_of_getElem? (i := 26) rfl))) (Or.inr (hw _ (List.mem_of_getElem? (i := 24) rfl))) (by decide) (t := .long) (t' := .int) (by decide) (by decide)))) (E_a1.wr W8) (Or.inr ⟨(hw _ (List.mem_of_getElem? (i := 26) rfl)), rfl, hnm⟩) (hw _ (List.mem_of_getElem? (i := 13) rfl)) (ty := .long) (by decide) rfl rfl (g := (mkF m 102 #[.val (.ref a1), .val (.long q2), .second, .val (.long q3), .second, .val (.long q4), .second] [(.long q3), (.ref a1)])) rfl rfl (hb hby d3_102)
  obtain ⟨Lo9, X9, N9⟩ : ∃ K, Stand p l e R3 s m #[(.ref a1), (.long q2), (.long q3), (.long q4)] below meth c T9 K 0 0 ∧ Fr n0 K := ⟨_, X9, (Fr.snoc X9 N8 g_a1)⟩
  refine own_step (f' := (mkF m 105 #[.val (.ref a1), .val (.long q2), .second, .val (.long q3), .second, .val (.long q4), .second] [])) st9 ?_
  refine own_step (f' := (mkF m 106 #[.val (.ref a1), .val (.long q2), .second, .val (.long q3), .second, .val (.long q4), .second] [(.ref a1)])) (fun _ k => XS.aloadN X9.here hx rfl (hb hby d3_105) rfl rfl k) ?_
  refine own_step (f' := (mkF m 108 #[.val (.ref a1), .val (.long q2), .second, .val (.long q3), .second, .val (.long q4), .second] [(.long q4), (.ref a1)])) (fun _ k => XS.lload X9.here hx rfl (hb hby d3_106) rfl k) ?_
  obtain ⟨T10, h10, X10, e10, W10, st10⟩ := putF X9 hx hZ hown (host := "") (Or.inl (hw _ (List.mem_of_getElem? (i := 27) rfl))) Via.refl e9 ((F_maxBackoffMillis_a1.other W8 (Or.inr (slot_ne (Or.inr (hw _ (List.mem_of_getElem? (i := 28) rfl))) (Or.inr (hw _ (List.mem_of_getElem? (i := 24) rfl))) (by decide) (t := .long) (t' := .int) (by decide) (by decide)))).other W9 (Or.inr (slot_ne (Or.inr (hw _ (List.mem_of_getElem? (i := 28) rfl))) (Or.inr (hw _ (List.mem_of_getElem? (i := 26) rfl))) (by decide) (t := .long) (t' := .long) (by decide) (by decide)))) ((E_a1.wr W8).wr W9) (Or.inr ⟨(hw _ (List.mem_of_getElem? (i := 28) rfl)), rfl, hnm⟩) (hw _ (List.mem_of_getElem? (i := 13) rfl)) (ty := .long) (by decide) rfl rfl (g := (mkF m 108 #[.val (.ref a1), .val (.long q2), .second, .val (.long q3), .second, .val (.long q4), .second] [(.long q4), (.ref a1)])) rfl rfl (hb hby d3_108)
  obtain ⟨Lo10, X10, N10⟩ : ∃ K, Stand p l e R3 s m #[(.ref a1), (.long q2), (.long q3), (.long q4)] below meth c T10 K 0 0 ∧ Fr n0 K := ⟨_, X10, (Fr.snoc X10 N9 g_a1)⟩
  refine own_step (f' := (mkF m 111 #[.val (.ref a1), .val (.long q2), .second, .val (.long q3), .second, .val (.long q4), .second] [])) st10 ?_
  refine own_out (v := none) X10 hlk (fun _ => rfl) (fun fs hr => X10.returnOut hx Bd.returns (hb hby d3_111) hr) (by decide) (by decide) ?_
  rw [e10]
  exact ⟨rfl, N10, ((((Keep.refl h0 [a1]).wr W8 (Or.inl (List.mem_of_getElem? (i := 0) rfl))).wr W9 (Or.inl (List.mem_of_getElem? (i := 0) rfl))).wr W10 (Or.inl (List.mem_of_getElem? (i := 0) rfl))), (((E_a1.wr W8).wr W9).wr W10), (((F_maxAttempts_a1.same W8).other W9 (Or.inr (slot_ne (Or.inr (hw _ (List.mem_of_getElem? (i := 24) rfl))) (Or.inr (hw _ (List.mem_of_getElem? (i := 26) rfl))) (by decide) (t := .int) (t' := .long) (by decide) (by decide)))).other W10 (Or.inr (slot_ne (Or.inr (hw _ (List.mem_of_getElem? (i := 24) rfl))) (Or.inr (hw _ (List.mem_of_getElem? (i := 28) rfl))) (by decide) (t := .int) (t' := .long) (by decide) (by decide)))), (((F_initialBackoffMillis_a1.other W8 (Or.inr (slot_ne (Or.inr (hw _ (List.mem_of_getElem? (i := 26) rfl))) (Or.inr (hw _ (List.mem_of_getElem? (i := 24) rfl))) (by decide) (t := .long) (t' := .int) (by decide) (by decide)))).same W9).other W10 (Or.inr (slot_ne (Or.inr (hw _ (List.mem_of_getElem? (i := 26) rfl))) (Or.inr (hw _ (List.mem_of_getElem? (i := 28) rfl))) (by decide) (t := .long) (t' := .long) (by decide) (by decide)))), (((F_maxBackoffMillis_a1.other W8 (Or.inr (slot_ne (Or.inr (hw _ (List.mem_of_getElem? (i := 28) rfl))) (Or.inr (hw _ (List.mem_of_getElem? (i := 24) rfl))) (by decide) (t := .long) (t' := .int) (by decide) (by decide)))).other W9 (Or.inr (slot_ne (Or.inr (hw _ (List.mem_of_getElem? (i := 28) rfl))) (Or.inr (hw _ (List.mem_of_getElem? (i := 26) rfl))) (by decide) (t := .long) (t' := .long) (by decide) (by decide)))).same W10)⟩
theorem own_lmod (x y : Int64) (hx : 0 ≤ x.toInt) : (x % y).toInt = x.toInt % y.toInt := by
  rw [Int64.toInt_mod]; exact Int.tmod_eq_emod_of_nonneg hx
theorem own_maskM (x : Int64) : (x &&& (9223372036854775807 : Int64)).toInt = x.toInt % 9223372036854775808 := c_maskL x 9223372036854775807 63 (by decide) (by decide)
theorem own_mask31 (x : Int64) : (x &&& (2147483647 : Int64)).toInt = x.toInt % 2147483648 := c_maskL x 2147483647 31 (by decide) (by decide)
theorem own_m (x : Int64) : ((1 : Int64) + (x &&& (2147483647 : Int64)) % (100 : Int64)).toInt = 1 + (x.toInt % 2147483648) % 100 := by
  have h1 := own_mask31 x
  have h2 := own_lmod (x &&& (2147483647 : Int64)) 100 (by omega)
  have e1 : (1 : Int64).toInt = 1 := by decide
  have e2 : (100 : Int64).toInt = 100 := by decide
  have h3 := c_ladd 1 ((x &&& (2147483647 : Int64)) % (100 : Int64))
  have h4 := rng64 ((1 : Int64) + (x &&& (2147483647 : Int64)) % (100 : Int64))
  rw [e2] at h2
  omega
theorem own_b (x : Int64) : 100 ≤ ((100 : Int64) + (x &&& (9223372036854775807 : Int64)) % (3155759999901 : Int64)).toInt ∧ ((100 : Int64) + (x &&& (9223372036854775807 : Int64)) % (3155759999901 : Int64)).toInt ≤ 3155760000000 := by
  have h1 := own_maskM x
  have h2 := own_lmod (x &&& (9223372036854775807 : Int64)) 3155759999901 (by omega)
  have e1 : (100 : Int64).toInt = 100 := by decide
  have e2 : (3155759999901 : Int64).toInt = 3155759999901 := by decide
  have h3 := c_ladd 100 ((x &&& (9223372036854775807 : Int64)) % (3155759999901 : Int64))
  have h4 := rng64 ((100 : Int64) + (x &&& (9223372036854775807 : Int64)) % (3155759999901 : Int64))
  rw [e2] at h2
  omega
theorem own_den (b : Int64) (h : 100 ≤ b.toInt ∧ b.toInt ≤ 3155760000000) : ((3155760000000 : Int64) - b + (1 : Int64)).toInt = 3155760000000 - b.toInt + 1 := by
  have e1 : (1 : Int64).toInt = 1 := by decide
  have e2 : (3155760000000 : Int64).toInt = 3155760000000 := by decide
  have h1 := c_lsub 3155760000000 b
  have h2 := c_ladd ((3155760000000 : Int64) - b) 1
  have h3 := rng64 ((3155760000000 : Int64) - b)
  have h4 := rng64 ((3155760000000 : Int64) - b + (1 : Int64))
  omega
theorem own_den0 (b : Int64) (h : 100 ≤ b.toInt ∧ b.toInt ≤ 3155760000000) : (3155760000000 : Int64) - b + (1 : Int64) ≠ 0 := fun q => by
  have h1 := own_den b h
  rw [q] at h1
  have e1 : (0 : Int64).toInt = 0 := by decide
  omega
theorem own_mb (b x : Int64) (h : 100 ≤ b.toInt ∧ b.toInt ≤ 3155760000000) : b.toInt ≤ (b + (x &&& (9223372036854775807 : Int64)) % ((3155760000000 : Int64) - b + (1 : Int64))).toInt ∧ (b + (x &&& (9223372036854775807 : Int64)) % ((3155760000000 : Int64) - b + (1 : Int64))).toInt ≤ 3155760000000 := by
  have h1 := own_maskM x
  have h2 := own_lmod (x &&& (9223372036854775807 : Int64)) ((3155760000000 : Int64) - b + (1 : Int64)) (by omega)
  have h5 := own_den b h
  have h6 := Int.emod_nonneg (x &&& (9223372036854775807 : Int64)).toInt (b := ((3155760000000 : Int64) - b + (1 : Int64)).toInt) (by omega)
  have h7 := Int.emod_lt_of_pos (x &&& (9223372036854775807 : Int64)).toInt (b := ((3155760000000 : Int64) - b + (1 : Int64)).toInt) (by omega)
  rw [← h2] at h6 h7
  have h3 := c_ladd b ((x &&& (9223372036854775807 : Int64)) % ((3155760000000 : Int64) - b + (1 : Int64)))
  have h4 := rng64 (b + (x &&& (9223372036854775807 : Int64)) % ((3155760000000 : Int64) - b + (1 : Int64)))
  omega
theorem own_nl (x y : Int64) (h : y.toInt ≤ x.toInt) : ¬ (x < y) := by
  rw [Int64.lt_iff_toInt_lt]; omega
theorem own_prem (q2 q3 q4 : Int64) (h2 : 1 ≤ q2.toInt ∧ q2.toInt ≤ 100) (h3 : 100 ≤ q3.toInt ∧ q3.toInt ≤ 3155760000000) (h4 : q3.toInt ≤ q4.toInt ∧ q4.toInt ≤ 3155760000000) :
    ¬ (q2 < (1 : Int64)) ∧ ¬ ((100 : Int64) < q2) ∧ ¬ (q3 < (100 : Int64)) ∧ ¬ ((3155760000000 : Int64) < q3) ∧ ¬ (q4 < q3) ∧ ¬ ((3155760000000 : Int64) < q4) := by
  have e1 : (1 : Int64).toInt = 1 := by decide
  have e2 : (100 : Int64).toInt = 100 := by decide
  have e3 : (3155760000000 : Int64).toInt = 3155760000000 := by decide
  exact ⟨own_nl _ _ (by omega), own_nl _ _ (by omega), own_nl _ _ (by omega), own_nl _ _ (by omega), own_nl _ _ (by omega), own_nl _ _ (by omega)⟩
def own_ini (x : Int64) : Int64 := (100 : Int64) + ((x &&& (9223372036854775807 : Int64)) % (3155759999901 : Int64))
def own_most (i x : Int64) : Int64 := i + ((x &&& (9223372036854775807 : Int64)) % (((3155760000000 : Int64) - i) + (1 : Int64)))
theorem own_iniB (x : Int64) : 100 ≤ (own_ini x).toInt ∧ (own_ini x).toInt ≤ 3155760000000 := own_b x
theorem own_mostB (i x : Int64) (h : 100 ≤ i.toInt ∧ i.toInt ≤ 3155760000000) : i.toInt ≤ (own_most i x).toInt ∧ (own_most i x).toInt ≤ 3155760000000 := own_mb i x h
theorem d1_0 : decode method_2_code 0 = .ok (.ldc2_w 7, 3) := by decide +kernel
theorem d1_3 : decode method_2_code 3 = .ok (.lload_n 0, 1) := by decide +kernel
theorem d1_4 : decode method_2_code 4 = .ok (.ldc2_w 11, 3) := by decide +kernel
theorem d1_7 : decode method_2_code 7 = .ok (.land, 1) := by decide +kernel
theorem d1_8 : decode method_2_code 8 = .ok (.ldc2_w 13, 3) := by decide +kernel
theorem d1_11 : decode method_2_code 11 = .ok (.lrem, 1) := by decide +kernel
theorem d1_12 : decode method_2_code 12 = .ok (.ladd, 1) := by decide +kernel
theorem d1_13 : decode method_2_code 13 = .ok (.lreturn, 1) := by decide +kernel
theorem pn_1 : plainName "com/example/kookaburra/kookaburra/core/RetryPolicyEqualsPinLaw" = true := by first | (simp [plainName, overriddenIn]; done) | decide +kernel
theorem ef_1 (m : MethodId) (x0 : Int64) : entryFrame m #[(.long x0)] 2 = mkF m 0 #[.val (.long x0), .second] [] := by first | (simp [entryFrame, mkF, argsToLocals, Value.category]; done) | rfl
def Q1 (Z : State) (q1 : Int64) (h0 : Heap) (n0 : Nat) (v : Option Value) (h : Heap) (L : List Loc) : Prop := v = some (.long (own_ini q1)) ∧ L = [] ∧ h = h0
abbrev R1 : Room := { frames := 0, cells := 0, slots := 0, locals := 0 }
set_option maxRecDepth 65536 in
set_option maxHeartbeats 40000000 in
theorem rm1 (l : Launch) (Z : State) (a0 : Array Value) (hw : ∀ d ∈ tables_1, d.before a0 Z = true) (ws : List Jvm.Cond) (q1 : Int64) (h0 : Heap) (n0 : Nat) (Z0 : n0 ≤ h0.size)  :
    MetFree l (⟨"com/example/kookaburra/kookaburra/core/RetryPolicyEqualsPinLaw", "initial", "(J)J"⟩ : MethodName) (head1 (Jvm.Cond.code (⟨"com/example/kookaburra/kookaburra/core/RetryPolicyEqualsPinLaw", "initial", "(J)J"⟩ : MethodName) method_2_code 2 (some .long) :: ws) R1) (fun a U => a = #[(.long q1)] ∧ Z.Warmed39 U.vm ∧ U.heap = h0) (fun _ _ _ _ _ => True) (fun _ U o U' => ∃ v L, o = .returned v ∧ Q1 Z q1 h0 n0 v U'.heap L ∧ FrameEnd U o U' L R1.cells R1.slots) := by
  refine MetFree.of_bodySF (plainFor_of_name pn_1) hisR ?_
  intro p e s m args below meth c s₁ Bd hml0 hP hK
  obtain ⟨rfl, hZ, hh⟩ := hP
  have hx := Bd.exec
  have hby := Bd.bytes
  have hlk : meth.locks = false := BodyLoose.notSynchronized Bd
  have hml : c.maxLocals = 2 := hml0
  have hown : s.vm.findClass "com/example/kookaburra/kookaburra/core/RetryPolicyEqualsPinLaw" = some m.cls := findClass_of_methodNamed Bd.named
  have hnm := (name_of_methodNamed Bd.named Bd.method).1
  have X0 : Stand p l e R1 s m #[(.long q1)] below meth c s₁ [] 0 0 := Stand.of_body Bd
  have e0 : s₁.heap = h0 := by rw [← hh, Bd.state]; rfl
  have N0 := Fr.nil n0
  show own_Goes p e below s (Q1 Z q1 h0 n0) R1.cells R1.slots s₁ (entryFrame m #[(.long q1)] 2)
  rw [ef_1 m q1]
  refine own_step (f' := (mkF m 3 #[.val (.long q1), .second] [(.long (100 : Int64))])) (fun _ k => X0.ldc2Long hx hown (mvT hZ (hw _ (List.mem_of_getElem? (i := 1) rfl))) (g := (mkF m 0 #[.val (.long q1), .second] [])) rfl (hb hby d1_0) _ k) ?_
  refine own_step (f' := (mkF m 4 #[.val (.long q1), .second] [(.long q1), (.long (100 : Int64))])) (fun _ k => XS.lloadN X0.here hx rfl (hb hby d1_3) rfl k) ?_
  refine own_step (f' := (mkF m 7 #[.val (.long q1), .second] [(.long (9223372036854775807 : Int64)), (.long q1), (.long (100 : Int64))])) (fun _ k => X0.ldc2Long hx hown (mvT hZ (hw _ (List.mem_of_getElem? (i := 6) rfl))) (g := (mkF m 4 #[.val (.long q1), .second] [(.long q1), (.long (100 : Int64))])) rfl (hb hby d1_4) _ k) ?_
  refine own_step (f' := (mkF m 8 #[.val (.long q1), .second] [(.long (q1 &&& (9223372036854775807 : Int64))), (.long (100 : Int64))])) (fun _ k => XS.land X0.here hx rfl (hb hby d1_7) rfl k) ?_
  refine own_step (f' := (mkF m 11 #[.val (.long q1), .second] [(.long (3155759999901 : Int64)), (.long (q1 &&& (9223372036854775807 : Int64))), (.long (100 : Int64))])) (fun _ k => X0.ldc2Long hx hown (mvT hZ (hw _ (List.mem_of_getElem? (i := 7) rfl))) (g := (mkF m 8 #[.val (.long q1), .second] [(.long (q1 &&& (9223372036854775807 : Int64))), (.long (100 : Int64))])) rfl (hb hby d1_8) _ k) ?_
  refine own_step (f' := (mkF m 12 #[.val (.long q1), .second] [(.long ((q1 &&& (9223372036854775807 : Int64)) % (3155759999901 : Int64))), (.long (100 : Int64))])) (fun _ k => XS.lrem X0.here hx rfl (hb hby d1_11) rfl (by decide) (by rw [lrem_mod]; exact k)) ?_
  refine own_step (f' := (mkF m 13 #[.val (.long q1), .second] [(.long ((100 : Int64) + ((q1 &&& (9223372036854775807 : Int64)) % (3155759999901 : Int64))))])) (fun _ k => XS.ladd X0.here hx rfl (hb hby d1_12) rfl k) ?_
  refine own_out (v := some (.long ((100 : Int64) + ((q1 &&& (9223372036854775807 : Int64)) % (3155759999901 : Int64))))) X0 hlk (fun h => by rw [Bd.returns] at h; cases h) (fun fs hr => retOut X0 hx Bd.returns rfl (Or.inr (Or.inl ⟨rfl, rfl, _, rfl⟩)) (hb hby d1_13) hr) (by decide) (by decide) ?_
  rw [e0]
  exact ⟨rfl, rfl, rfl⟩
theorem d2_0 : decode method_3_code 0 = .ok (.lload_n 0, 1) := by decide +kernel
theorem d2_1 : decode method_3_code 1 = .ok (.lload_n 2, 1) := by decide +kernel
theorem d2_2 : decode method_3_code 2 = .ok (.ldc2_w 11, 3) := by decide +kernel
theorem d2_5 : decode method_3_code 5 = .ok (.land, 1) := by decide +kernel
theorem d2_6 : decode method_3_code 6 = .ok (.ldc2_w 15, 3) := by decide +kernel
theorem d2_9 : decode method_3_code 9 = .ok (.lload_n 0, 1) := by decide +kernel
theorem d2_10 : decode method_3_code 10 = .ok (.lsub, 1) := by decide +kernel
theorem d2_11 : decode method_3_code 11 = .ok (.lconst 1, 1) := by decide +kernel
theorem d2_12 : decode method_3_code 12 = .ok (.ladd, 1) := by decide +kernel
theorem d2_13 : decode method_3_code 13 = .ok (.lrem, 1) := by decide +kernel
theorem d2_14 : decode method_3_code 14 = .ok (.ladd, 1) := by decide +kernel
theorem d2_15 : decode method_3_code 15 = .ok (.lreturn, 1) := by decide +kernel
theorem ef_2 (m : MethodId) (x0 : Int64) (x1 : Int64) : entryFrame m #[(.long x0), (.long x1)] 4 = mkF m 0 #[.val (.long x0), .second, .val (.long x1), .second] [] := by first | (simp [entryFrame, mkF, argsToLocals, Value.category]; done) | rfl
def Q2 (Z : State) (q1 : Int64) (q2 : Int64) (h0 : Heap) (n0 : Nat) (v : Option Value) (h : Heap) (L : List Loc) : Prop := v = some (.long (own_most q1 q2)) ∧ L = [] ∧ h = h0
abbrev R2 : Room := { frames := 0, cells := 0, slots := 0, locals := 0 }
set_option maxRecDepth 65536 in
set_option maxHeartbeats 40000000 in
theorem rm2 (l : Launch) (Z : State) (a0 : Array Value) (hw : ∀ d ∈ tables_1, d.before a0 Z = true) (ws : List Jvm.Cond) (q1 : Int64) (q2 : Int64) (h0 : Heap) (n0 : Nat) (Z0 : n0 ≤ h0.size) (hq : 100 ≤ q1.toInt ∧ q1.toInt ≤ 3155760000000) :
    MetFree l (⟨"com/example/kookaburra/kookaburra/core/RetryPolicyEqualsPinLaw", "most", "(JJ)J"⟩ : MethodName) (head1 (Jvm.Cond.code (⟨"com/example/kookaburra/kookaburra/core/RetryPolicyEqualsPinLaw", "most", "(JJ)J"⟩ : MethodName) method_3_code 4 (some .long) :: ws) R2) (fun a U => a = #[(.long q1), (.long q2)] ∧ Z.Warmed39 U.vm ∧ U.heap = h0) (fun _ _ _ _ _ => True) (fun _ U o U' => ∃ v L, o = .returned v ∧ Q2 Z q1 q2 h0 n0 v U'.heap L ∧ FrameEnd U o U' L R2.cells R2.slots) := by
  refine MetFree.of_bodySF (plainFor_of_name pn_1) hisR ?_
  intro p e s m args below meth c s₁ Bd hml0 hP hK
  obtain ⟨rfl, hZ, hh⟩ := hP
  have hx := Bd.exec
  have hby := Bd.bytes
  have hlk : meth.locks = false := BodyLoose.notSynchronized Bd
  have hml : c.maxLocals = 4 := hml0
  have hown : s.vm.findClass "com/example/kookaburra/kookaburra/core/RetryPolicyEqualsPinLaw" = some m.cls := findClass_of_methodNamed Bd.named
  have hnm := (name_of_methodNamed Bd.named Bd.method).1
  have X0 : Stand p l e R2 s m #[(.long q1), (.long q2)] below meth c s₁ [] 0 0 := Stand.of_body Bd
  have e0 : s₁.heap = h0 := by rw [← hh, Bd.state]; rfl
  have N0 := Fr.nil n0
  show own_Goes p e below s (Q2 Z q1 q2 h0 n0) R2.cells R2.slots s₁ (entryFrame m #[(.long q1), (.long q2)] 4)
  rw [ef_2 m q1 q2]
  refine own_step (f' := (mkF m 1 #[.val (.long q1), .second, .val (.long q2), .second] [(.long q1)])) (fun _ k => XS.lloadN X0.here hx rfl (hb hby d2_0) rfl k) ?_
  refine own_step (f' := (mkF m 2 #[.val (.long q1), .second, .val (.long q2), .second] [(.long q2), (.long q1)])) (fun _ k => XS.lloadN X0.here hx rfl (hb hby d2_1) rfl k) ?_
  refine own_step (f' := (mkF m 5 #[.val (.long q1), .second, .val (.long q2), .second] [(.long (9223372036854775807 : Int64)), (.long q2), (.long q1)])) (fun _ k => X0.ldc2Long hx hown (mvT hZ (hw _ (List.mem_of_getElem? (i := 6) rfl))) (g := (mkF m 2 #[.val (.long q1), .second, .val (.long q2), .second] [(.long q2), (.long q1)])) rfl (hb hby d2_2) _ k) ?_
  refine own_step (f' := (mkF m 6 #[.val (.long q1), .second, .val (.long q2), .second] [(.long (q2 &&& (9223372036854775807 : Int64))), (.long q1)])) (fun _ k => XS.land X0.here hx rfl (hb hby d2_5) rfl k) ?_
  refine own_step (f' := (mkF m 9 #[.val (.long q1), .second, .val (.long q2), .second] [(.long (3155760000000 : Int64)), (.long (q2 &&& (9223372036854775807 : Int64))), (.long q1)])) (fun _ k => X0.ldc2Long hx hown (mvT hZ (hw _ (List.mem_of_getElem? (i := 11) rfl))) (g := (mkF m 6 #[.val (.long q1), .second, .val (.long q2), .second] [(.long (q2 &&& (9223372036854775807 : Int64))), (.long q1)])) rfl (hb hby d2_6) _ k) ?_
  refine own_step (f' := (mkF m 10 #[.val (.long q1), .second, .val (.long q2), .second] [(.long q1), (.long (3155760000000 : Int64)), (.long (q2 &&& (9223372036854775807 : Int64))), (.long q1)])) (fun _ k => XS.lloadN X0.here hx rfl (hb hby d2_9) rfl k) ?_
  refine own_step (f' := (mkF m 11 #[.val (.long q1), .second, .val (.long q2), .second] [(.long ((3155760000000 : Int64) - q1)), (.long (q2 &&& (9223372036854775807 : Int64))), (.long q1)])) (fun _ k => XS.lsub X0.here hx rfl (hb hby d2_10) rfl k) ?_
  refine own_step (f' := (mkF m 12 #[.val (.long q1), .second, .val (.long q2), .second] [(.long (1 : Int64)), (.long ((3155760000000 : Int64) - q1)), (.long (q2 &&& (9223372036854775807 : Int64))), (.long q1)])) (fun _ k => XS.lconst X0.here hx rfl (hb hby d2_11) k) ?_
  refine own_step (f' := (mkF m 13 #[.val (.long q1), .second, .val (.long q2), .second] [(.long (((3155760000000 : Int64) - q1) + (1 : Int64))), (.long (q2 &&& (9223372036854775807 : Int64))), (.long q1)])) (fun _ k => XS.ladd X0.here hx rfl (hb hby d2_12) rfl k) ?_
  refine own_step (f' := (mkF m 14 #[.val (.long q1), .second, .val (.long q2), .second] [(.long ((q2 &&& (9223372036854775807 : Int64)) % (((3155760000000 : Int64) - q1) + (1 : Int64)))), (.long q1)])) (fun _ k => XS.lrem X0.here hx rfl (hb hby d2_13) rfl (own_den0 _ hq) (by rw [lrem_mod]; exact k)) ?_
  refine own_step (f' := (mkF m 15 #[.val (.long q1), .second, .val (.long q2), .second] [(.long (q1 + ((q2 &&& (9223372036854775807 : Int64)) % (((3155760000000 : Int64) - q1) + (1 : Int64)))))])) (fun _ k => XS.ladd X0.here hx rfl (hb hby d2_14) rfl k) ?_
  refine own_out (v := some (.long (q1 + ((q2 &&& (9223372036854775807 : Int64)) % (((3155760000000 : Int64) - q1) + (1 : Int64)))))) X0 hlk (fun h => by rw [Bd.returns] at h; cases h) (fun fs hr => retOut X0 hx Bd.returns rfl (Or.inr (Or.inl ⟨rfl, rfl, _, rfl⟩)) (hb hby d2_15) hr) (by decide) (by decide) ?_
  rw [e0]
  exact ⟨rfl, rfl, rfl⟩
theorem d8_0 : decode jdk_18_method_1_code 0 = .ok (.aload_n 0, 1) := by decide +kernel
theorem d8_1 : decode jdk_18_method_1_code 1 = .ok (.invokespecial 1, 3) := by decide +kernel
theorem d8_4 : decode jdk_18_method_1_code 4 = .ok (.return_, 1) := by decide +kernel
theorem pn_2 : plainName "java/lang/Number" = true := by first | (simp [plainName, overriddenIn]; done) | decide +kernel
theorem ef_8 (m : MethodId) (x0 : Addr) : entryFrame m #[(.ref x0)] 1 = mkF m 0 #[.val (.ref x0)] [] := by first | (simp [entryFrame, mkF, argsToLocals, Value.category]; done) | rfl
def Q8 (Z : State) (a1 : Addr) (h0 : Heap) (n0 : Nat) (v : Option Value) (h : Heap) (L : List Loc) : Prop := v = none ∧ L = [] ∧ h = h0
abbrev R8 : Room := { frames := 1, cells := 0, slots := 0, locals := 12 }
set_option maxRecDepth 65536 in
set_option maxHeartbeats 40000000 in
theorem rm8 (l : Launch) (Z : State) (a0 : Array Value) (hw : ∀ d ∈ tables_1, d.before a0 Z = true) (ws : List Jvm.Cond) (a1 : Addr) (h0 : Heap) (n0 : Nat) (Z0 : n0 ≤ h0.size)  :
    MetFree l (⟨"java/lang/Number", "<init>", "()V"⟩ : MethodName) (head1 (Jvm.Cond.code (⟨"java/lang/Number", "<init>", "()V"⟩ : MethodName) jdk_18_method_1_code 1 none :: ws) R8) (fun a U => a = #[(.ref a1)] ∧ Z.Warmed39 U.vm ∧ U.heap = h0) (fun _ _ _ _ _ => True) (fun _ U o U' => ∃ v L, o = .returned v ∧ Q8 Z a1 h0 n0 v U'.heap L ∧ FrameEnd U o U' L R8.cells R8.slots) := by
  refine MetFree.of_bodySF (plainFor_of_name pn_2) hisR ?_
  intro p e s m args below meth c s₁ Bd hml0 hP hK
  obtain ⟨rfl, hZ, hh⟩ := hP
  have hx := Bd.exec
  have hby := Bd.bytes
  have hlk : meth.locks = false := BodyLoose.notSynchronized Bd
  have hml : c.maxLocals = 1 := hml0
  have hown : s.vm.findClass "java/lang/Number" = some m.cls := findClass_of_methodNamed Bd.named
  have hnm := (name_of_methodNamed Bd.named Bd.method).1
  have X0 : Stand p l e R8 s m #[(.ref a1)] below meth c s₁ [] 0 0 := Stand.of_body Bd
  have e0 : s₁.heap = h0 := by rw [← hh, Bd.state]; rfl
  have N0 := Fr.nil n0
  show own_Goes p e below s (Q8 Z a1 h0 n0) R8.cells R8.slots s₁ (entryFrame m #[(.ref a1)] 1)
  rw [ef_8 m a1]
  refine own_step (f' := (mkF m 1 #[.val (.ref a1)] [(.ref a1)])) (fun _ k => XS.aloadN X0.here hx rfl (hb hby d8_0) rfl rfl k) ?_
  obtain ⟨T1, X1, e1, st1⟩ := initO X0 hx hZ hown (hw _ (List.mem_of_getElem? (i := 59) rfl)) (hw _ (List.mem_of_getElem? (i := 19) rfl)) (hw _ (List.mem_of_getElem? (i := 20) rfl)) e0 (g := (mkF m 1 #[.val (.ref a1)] [(.ref a1)])) rfl (by rw [hml]; rfl) rfl (hb hby d8_1) (by decide) (W := 0) (by show 2 * 0 + _ ≤ _; exact Nat.le_of_eq rfl) (by decide)
  refine own_step (f' := (mkF m 4 #[.val (.ref a1)] [])) st1 ?_
  refine own_out (v := none) X1 hlk (fun _ => rfl) (fun fs hr => X1.returnOut hx Bd.returns (hb hby d8_4) hr) (by decide) (by decide) ?_
  rw [e1]
  exact ⟨rfl, rfl, rfl⟩
theorem pd_0 : parseMethodDescriptor "()V" = some ⟨[], none⟩ := by decide +kernel
theorem d7_0 : decode jdk_35_method_26_code 0 = .ok (.aload_n 0, 1) := by decide +kernel
theorem d7_1 : decode jdk_35_method_26_code 1 = .ok (.invokespecial 270, 3) := by decide +kernel
theorem d7_4 : decode jdk_35_method_26_code 4 = .ok (.aload_n 0, 1) := by decide +kernel
theorem d7_5 : decode jdk_35_method_26_code 5 = .ok (.lload_n 1, 1) := by decide +kernel
theorem d7_6 : decode jdk_35_method_26_code 6 = .ok (.putfield 273, 3) := by decide +kernel
theorem d7_9 : decode jdk_35_method_26_code 9 = .ok (.return_, 1) := by decide +kernel
theorem pn_3 : plainName "java/lang/Long" = true := by first | (simp [plainName, overriddenIn]; done) | decide +kernel
theorem ef_7 (m : MethodId) (x0 : Addr) (x1 : Int64) : entryFrame m #[(.ref x0), (.long x1)] 3 = mkF m 0 #[.val (.ref x0), .val (.long x1), .second] [] := by first | (simp [entryFrame, mkF, argsToLocals, Value.category]; done) | rfl
def Q7 (Z : State) (a1 : Addr) (q2 : Int64) (u1 : Value) (h0 : Heap) (n0 : Nat) (v : Option Value) (h : Heap) (L : List Loc) : Prop := v = none ∧ Fr n0 L ∧ Keep h0 h [a1] ∧ Exa Z h a1 "java/lang/Long" ∧ Fld Z h a1 "java/lang/Long" "value" "J" (.long q2)
abbrev R7 : Room := { frames := 2, cells := 0, slots := 0, locals := 24 }
set_option maxRecDepth 65536 in
set_option maxHeartbeats 40000000 in
theorem rm7 (l : Launch) (Z : State) (a0 : Array Value) (hw : ∀ d ∈ tables_1, d.before a0 Z = true) (ws : List Jvm.Cond) (a1 : Addr) (q2 : Int64) (u1 : Value) (h0 : Heap) (n0 : Nat) (Z0 : n0 ≤ h0.size) (E_a1 : Exa Z h0 a1 "java/lang/Long") (F_value_a1 : Fld Z h0 a1 "java/lang/Long" "value" "J" u1) (g_a1 : n0 ≤ a1) :
    MetFree l (⟨"java/lang/Long", "<init>", "(J)V"⟩ : MethodName) (head1 (Jvm.Cond.code (⟨"java/lang/Long", "<init>", "(J)V"⟩ : MethodName) jdk_35_method_26_code 3 none :: ws) R7) (fun a U => a = #[(.ref a1), (.long q2)] ∧ Z.Warmed39 U.vm ∧ U.heap = h0) (fun _ _ _ _ _ => True) (fun _ U o U' => ∃ v L, o = .returned v ∧ Q7 Z a1 q2 u1 h0 n0 v U'.heap L ∧ FrameEnd U o U' L R7.cells R7.slots) := by
  refine MetFree.of_bodySF (plainFor_of_name pn_3) hisR ?_
  intro p e s m args below meth c s₁ Bd hml0 hP hK
  obtain ⟨rfl, hZ, hh⟩ := hP
  have hx := Bd.exec
  have hby := Bd.bytes
  have hlk : meth.locks = false := BodyLoose.notSynchronized Bd
  have hml : c.maxLocals = 3 := hml0
  have hown : s.vm.findClass "java/lang/Long" = some m.cls := findClass_of_methodNamed Bd.named
  have hnm := (name_of_methodNamed Bd.named Bd.method).1
  have X0 : Stand p l e R7 s m #[(.ref a1), (.long q2)] below meth c s₁ [] 0 0 := Stand.of_body Bd
  have e0 : s₁.heap = h0 := by rw [← hh, Bd.state]; rfl
  have N0 := Fr.nil n0
  show own_Goes p e below s (Q7 Z a1 q2 u1 h0 n0) R7.cells R7.slots s₁ (entryFrame m #[(.ref a1), (.long q2)] 3)
  rw [ef_7 m a1 q2]
  refine own_step (f' := (mkF m 1 #[.val (.ref a1), .val (.long q2), .second] [(.ref a1)])) (fun _ k => XS.aloadN X0.here hx rfl (hb hby d7_0) rfl rfl k) ?_
  have Zq1 : n0 ≤ h0.size := Z0
  obtain ⟨_, _, ⟨T1, L1, k1, n1⟩, -, X1, ⟨Lc1, hQ1, l1, y1, z1⟩, st1⟩ := X0.specialBack hx (y := (⟨"java/lang/Number", "<init>", "()V"⟩ : MethodName)) rfl hown (mvT hZ (hw _ (List.mem_of_getElem? (i := 53) rfl))) (mvT hZ (hw _ (List.mem_of_getElem? (i := 54) rfl))) (mvT hZ (hw _ (List.mem_of_getElem? (i := 58) rfl))) (by decide) (backOf (W := 0) (rm8 l Z a0 hw [] a1 h0 n0 Zq1 ) hZ (hw _ (List.mem_of_getElem? (i := 58) rfl)) (hw _ (List.mem_of_getElem? (i := 57) rfl)) (by decide) (by decide)) (g := (mkF m 1 #[.val (.ref a1), .val (.long q2), .second] [(.ref a1)])) rfl (by rw [hml]; rfl) (Steps.refl _) (a := a1) (argsL := []) (rest := []) (lenOf pd_0 rfl) rfl (by show 2 * 0 + _ ≤ _; exact Nat.le_of_eq rfl) (hb hby d7_1) (fun _ _ => ⟨rfl, e0, (by decide : 0 + 0 ≤ _), (by decide : 0 + 0 ≤ _)⟩)
  dsimp only [Pt.U, Pt.locs, Pt.cells, Pt.slots] at X1 l1 y1 z1 st1 hQ1
  subst l1 y1 z1
  obtain ⟨rfl, rfl, e1⟩ := hQ1
  try rw [List.append_nil] at X1
  refine own_jump (f' := (mkF m 4 #[.val (.ref a1), .val (.long q2), .second] [])) st1 ?_
  refine own_step (f' := (mkF m 5 #[.val (.ref a1), .val (.long q2), .second] [(.ref a1)])) (fun _ k => XS.aloadN X1.here hx rfl (hb hby d7_4) rfl rfl k) ?_
  refine own_step (f' := (mkF m 6 #[.val (.ref a1), .val (.long q2), .second] [(.long q2), (.ref a1)])) (fun _ k => XS.lloadN X1.here hx rfl (hb hby d7_5) rfl k) ?_
  obtain ⟨T2, h2, X2, e2, W2, st2⟩ := putF X1 hx hZ hown (host := "") (Or.inl (hw _ (List.mem_of_getElem? (i := 60) rfl))) Via.refl e1 F_value_a1 E_a1 (Or.inr ⟨(hw _ (List.mem_of_getElem? (i := 61) rfl)), rfl, hnm⟩) (hw _ (List.mem_of_getElem? (i := 48) rfl)) (ty := .long) (by decide) rfl rfl (g := (mkF m 6 #[.val (.ref a1), .val (.long q2), .second] [(.long q2), (.ref a1)])) rfl rfl (hb hby d7_6)
  obtain ⟨Lo2, X2, N2⟩ : ∃ K, Stand p l e R7 s m #[(.ref a1), (.long q2)] below meth c T2 K 0 0 ∧ Fr n0 K := ⟨_, X2, (Fr.snoc X2 N0 g_a1)⟩
  refine own_step (f' := (mkF m 9 #[.val (.ref a1), .val (.long q2), .second] [])) st2 ?_
  refine own_out (v := none) X2 hlk (fun _ => rfl) (fun fs hr => X2.returnOut hx Bd.returns (hb hby d7_9) hr) (by decide) (by decide) ?_
  rw [e2]
  exact ⟨rfl, N2, ((Keep.refl h0 [a1]).wr W2 (Or.inl (List.mem_of_getElem? (i := 0) rfl))), (E_a1.wr W2), (F_value_a1.same W2)⟩
theorem own_cidx (q : Int64) (cl : Cell) (hs : cl.slots.size = 256) (h : 100 ≤ q.toInt) (h2 : ¬ (127 : Int64) < q) : ¬ ((q.toInt32 + (128 : Int32)) < 0 ∨ cl.slots.size ≤ (q.toInt32 + (128 : Int32)).toNatClampNeg) := by
  rw [Int64.lt_iff_toInt_lt] at h2
  have e1 : (127 : Int64).toInt = 127 := by decide
  have e2 : (128 : Int32).toInt = 128 := by decide
  have e0 : (0 : Int32).toInt = 0 := by decide
  have h3 := c_l2i q
  have h4 := rng32 q.toInt32
  have h5 := c_iadd q.toInt32 128
  have h6 := rng32 (q.toInt32 + 128)
  have h7 : ¬ (q.toInt32 + (128 : Int32)) < 0 := by rw [Int32.lt_iff_toInt_lt]; omega
  have h8 := nat_of h7
  rintro (h9 | h9)
  · exact h7 h9
  · omega
theorem own_hlo (q : Int64) (h : 100 ≤ q.toInt) : ¬ (q < (-128 : Int64)) := own_nl _ _ (by have e : (-128 : Int64).toInt = -128 := (by decide); omega)
theorem pd_1 : parseMethodDescriptor "(J)V" = some ⟨[.long], none⟩ := by decide +kernel
theorem d5_0 : decode jdk_35_method_24_code 0 = .ok (.sipush 128, 3) := by decide +kernel
theorem d5_3 : decode jdk_35_method_24_code 3 = .ok (.istore_n 2, 1) := by decide +kernel
theorem d5_4 : decode jdk_35_method_24_code 4 = .ok (.lload_n 0, 1) := by decide +kernel
theorem d5_5 : decode jdk_35_method_24_code 5 = .ok (.ldc2_w 230, 3) := by decide +kernel
theorem d5_8 : decode jdk_35_method_24_code 8 = .ok (.lcmp, 1) := by decide +kernel
theorem d5_9 : decode jdk_35_method_24_code 9 = .ok (.ifCond .lt 22, 3) := by decide +kernel
theorem d5_12 : decode jdk_35_method_24_code 12 = .ok (.lload_n 0, 1) := by decide +kernel
theorem d5_13 : decode jdk_35_method_24_code 13 = .ok (.ldc2_w 232, 3) := by decide +kernel
theorem d5_16 : decode jdk_35_method_24_code 16 = .ok (.lcmp, 1) := by decide +kernel
theorem d5_17 : decode jdk_35_method_24_code 17 = .ok (.ifCond .gt 14, 3) := by decide +kernel
theorem d5_20 : decode jdk_35_method_24_code 20 = .ok (.getstatic 234, 3) := by decide +kernel
theorem d5_23 : decode jdk_35_method_24_code 23 = .ok (.lload_n 0, 1) := by decide +kernel
theorem d5_24 : decode jdk_35_method_24_code 24 = .ok (.l2i, 1) := by decide +kernel
theorem d5_25 : decode jdk_35_method_24_code 25 = .ok (.sipush 128, 3) := by decide +kernel
theorem d5_28 : decode jdk_35_method_24_code 28 = .ok (.iadd, 1) := by decide +kernel
theorem d5_29 : decode jdk_35_method_24_code 29 = .ok (.aaload, 1) := by decide +kernel
theorem d5_30 : decode jdk_35_method_24_code 30 = .ok (.areturn, 1) := by decide +kernel
theorem d5_31 : decode jdk_35_method_24_code 31 = .ok (.new 1, 3) := by decide +kernel
theorem d5_34 : decode jdk_35_method_24_code 34 = .ok (.dup, 1) := by decide +kernel
theorem d5_35 : decode jdk_35_method_24_code 35 = .ok (.lload_n 0, 1) := by decide +kernel
theorem d5_36 : decode jdk_35_method_24_code 36 = .ok (.invokespecial 240, 3) := by decide +kernel
theorem d5_39 : decode jdk_35_method_24_code 39 = .ok (.areturn, 1) := by decide +kernel
theorem ef_5 (m : MethodId) (x0 : Int64) : entryFrame m #[(.long x0)] 3 = mkF m 0 #[.val (.long x0), .second, .unset] [] := by first | (simp [entryFrame, mkF, argsToLocals, Value.category]; done) | rfl
def Q5 (Z : State) (q1 : Int64) (w1 : Addr) (cl : Cell) (h0 : Heap) (n0 : Nat) (v : Option Value) (h : Heap) (L : List Loc) : Prop := ∃ b : Addr, v = some (.ref b) ∧ Fr n0 L ∧ Keep h0 h [] ∧ Exa Z h b "java/lang/Long"
abbrev R5 : Room := { frames := 3, cells := 1, slots := 1, locals := 39 }
set_option maxRecDepth 65536 in
set_option maxHeartbeats 40000000 in
theorem rm5 (l : Launch) (Z : State) (a0 : Array Value) (hw : ∀ d ∈ tables_1, d.before a0 Z = true) (ws : List Jvm.Cond) (q1 : Int64) (w1 : Addr) (cl : Cell) (h0 : Heap) (n0 : Nat) (Z0 : n0 ≤ h0.size) (S_cache : Sta Z h0 "java/lang/Long$LongCache" "cache" "[Ljava/lang/Long;" (.ref w1)) (hArr : Arr Z Z.heap w1 cl (.object "java/lang/Long")) (hsz : cl.slots.size = 256) (hbox : ∀ j : Int32, ¬ (j < 0 ∨ cl.slots.size ≤ j.toNatClampNeg) → ∃ b : Addr, cl.slots[j.toNatClampNeg]? = some (.ref b) ∧ Exa Z Z.heap b "java/lang/Long") (hOld : Old Z n0 h0) (hq : 100 ≤ q1.toInt) :
    MetFree l (⟨"java/lang/Long", "valueOf", "(J)Ljava/lang/Long;"⟩ : MethodName) (head1 (Jvm.Cond.code (⟨"java/lang/Long", "valueOf", "(J)Ljava/lang/Long;"⟩ : MethodName) jdk_35_method_24_code 3 (some (.object "java/lang/Long")) :: ws) R5) (fun a U => a = #[(.long q1)] ∧ Z.Warmed39 U.vm ∧ U.heap = h0) (fun _ _ _ _ _ => True) (fun _ U o U' => ∃ v L, o = .returned v ∧ Q5 Z q1 w1 cl h0 n0 v U'.heap L ∧ FrameEnd U o U' L R5.cells R5.slots) := by
  refine MetFree.of_bodySF (plainFor_of_name pn_3) hisR ?_
  intro p e s m args below meth c s₁ Bd hml0 hP hK
  obtain ⟨rfl, hZ, hh⟩ := hP
  have hx := Bd.exec
  have hby := Bd.bytes
  have hlk : meth.locks = false := BodyLoose.notSynchronized Bd
  have hml : c.maxLocals = 3 := hml0
  have hown : s.vm.findClass "java/lang/Long" = some m.cls := findClass_of_methodNamed Bd.named
  have hnm := (name_of_methodNamed Bd.named Bd.method).1
  have X0 : Stand p l e R5 s m #[(.long q1)] below meth c s₁ [] 0 0 := Stand.of_body Bd
  have e0 : s₁.heap = h0 := by rw [← hh, Bd.state]; rfl
  have N0 := Fr.nil n0
  show own_Goes p e below s (Q5 Z q1 w1 cl h0 n0) R5.cells R5.slots s₁ (entryFrame m #[(.long q1)] 3)
  rw [ef_5 m q1]
  refine own_step (f' := (mkF m 3 #[.val (.long q1), .second, .unset] [(.int (128 : Int32))])) (fun _ k => XS.sipush X0.here hx rfl (hb hby d5_0) k) ?_
  refine own_step (f' := (mkF m 4 #[.val (.long q1), .second, .val (.int (128 : Int32))] [])) (fun _ k => XS.istoreN X0.here hx rfl (hb hby d5_3) rfl (l' := #[.val (.long q1), .second, .val (.int (128 : Int32))]) rfl k) ?_
  refine own_step (f' := (mkF m 5 #[.val (.long q1), .second, .val (.int (128 : Int32))] [(.long q1)])) (fun _ k => XS.lloadN X0.here hx rfl (hb hby d5_4) rfl k) ?_
  refine own_step (f' := (mkF m 8 #[.val (.long q1), .second, .val (.int (128 : Int32))] [(.long (-128 : Int64)), (.long q1)])) (fun _ k => X0.ldc2Long hx hown (mvT hZ (hw _ (List.mem_of_getElem? (i := 33) rfl))) (g := (mkF m 5 #[.val (.long q1), .second, .val (.int (128 : Int32))] [(.long q1)])) rfl (hb hby d5_5) _ k) ?_
  refine own_step (f' := (mkF m 9 #[.val (.long q1), .second, .val (.int (128 : Int32))] [(.int (lcmpW q1 (-128 : Int64)))])) (fun _ k => XS.lcmp X0.here hx rfl (hb hby d5_8) rfl k) ?_
  have hf9_1 : ¬ (q1 < (-128 : Int64)) := own_hlo q1 hq
  refine own_step (f' := (mkF m 12 #[.val (.long q1), .second, .val (.int (128 : Int32))] [])) (fun _ k => XS.ifNo X0.here hx rfl (hb hby d5_9) rfl ((if0 _ _).trans (flt (fun q => hf9_1 ((lw_lt _ _).mp q))).1) k) ?_
  refine own_step (f' := (mkF m 13 #[.val (.long q1), .second, .val (.int (128 : Int32))] [(.long q1)])) (fun _ k => XS.lloadN X0.here hx rfl (hb hby d5_12) rfl k) ?_
  refine own_step (f' := (mkF m 16 #[.val (.long q1), .second, .val (.int (128 : Int32))] [(.long (127 : Int64)), (.long q1)])) (fun _ k => X0.ldc2Long hx hown (mvT hZ (hw _ (List.mem_of_getElem? (i := 34) rfl))) (g := (mkF m 13 #[.val (.long q1), .second, .val (.int (128 : Int32))] [(.long q1)])) rfl (hb hby d5_13) _ k) ?_
  refine own_step (f' := (mkF m 17 #[.val (.long q1), .second, .val (.int (128 : Int32))] [(.int (lcmpW q1 (127 : Int64)))])) (fun _ k => XS.lcmp X0.here hx rfl (hb hby d5_16) rfl k) ?_
  by_cases hc17_2 : (127 : Int64) < q1
  · refine own_step (f' := (mkF m 31 #[.val (.long q1), .second, .val (.int (128 : Int32))] [])) (fun _ k => XS.ifYes X0.here hx rfl (pc0 := 17) (pc' := 31) rfl (hb hby d5_17) rfl ((if0 _ _).trans (tlt ((lw_gt _ _).mpr hc17_2)).2.2.1) (by decide) (by decide) k) ?_
    obtain ⟨T3, h3, X3, e3, E3, A3, D3, -, st3⟩ := newO X0 hx hZ hown (hw _ (List.mem_of_getElem? (i := 47) rfl)) (hw _ (List.mem_of_getElem? (i := 48) rfl)) (hw _ (List.mem_of_getElem? (i := 31) rfl)) e0 (g := (mkF m 31 #[.val (.long q1), .second, .val (.int (128 : Int32))] [])) rfl (hb hby d5_31) (by decide) (by decide)
    obtain ⟨b3, g3⟩ : ∃ z, z = h0.size := ⟨_, rfl⟩
    rw [← g3] at A3 D3 st3
    have g_b3 : n0 ≤ b3 := Nat.le_trans Z0 (Nat.le_of_eq g3.symm)
    have sz_b3 : h0.size ≤ b3 := Nat.le_trans (Keep.refl h0 []).1 (Nat.le_of_eq g3.symm)
    have F_value_b3 : Fld Z h3 b3 "java/lang/Long" "value" "J" (.long (0 : Int64)) := D3 (Or.inr (hw _ (List.mem_of_getElem? (i := 61) rfl))) (ty := .long) (by decide)
    refine own_step (f' := (mkF m 34 #[.val (.long q1), .second, .val (.int (128 : Int32))] [(.ref b3)])) st3 ?_
    refine own_step (f' := (mkF m 35 #[.val (.long q1), .second, .val (.int (128 : Int32))] [(.ref b3), (.ref b3)])) (fun _ k => XS.dup X3.here hx rfl (hb hby d5_34) rfl rfl k) ?_
    refine own_step (f' := (mkF m 36 #[.val (.long q1), .second, .val (.int (128 : Int32))] [(.long q1), (.ref b3), (.ref b3)])) (fun _ k => XS.lloadN X3.here hx rfl (hb hby d5_35) rfl k) ?_
    have Zq4 : n0 ≤ h3.size := (Nat.le_trans Z0 E3.1)
    obtain ⟨_, _, ⟨T4, L4, k4, n4⟩, -, X4, ⟨Lc4, hQ4, l4, y4, z4⟩, st4⟩ := X3.specialBack hx (y := (⟨"java/lang/Long", "<init>", "(J)V"⟩ : MethodName)) rfl hown (mvT hZ (hw _ (List.mem_of_getElem? (i := 49) rfl))) (mvT hZ (hw _ (List.mem_of_getElem? (i := 50) rfl))) (mvT hZ (hw _ (List.mem_of_getElem? (i := 52) rfl))) (by decide) (backOf (W := 1) (rm7 l Z a0 hw [] b3 q1 (.long (0 : Int64)) h3 n0 Zq4 A3 F_value_b3 g_b3) hZ (hw _ (List.mem_of_getElem? (i := 52) rfl)) (hw _ (List.mem_of_getElem? (i := 31) rfl)) (by decide) (by decide)) (g := (mkF m 36 #[.val (.long q1), .second, .val (.int (128 : Int32))] [(.long q1), (.ref b3), (.ref b3)])) rfl (by rw [hml]; rfl) (Steps.refl _) (a := b3) (argsL := [(.long q1)]) (rest := [(.ref b3)]) (lenOf pd_1 rfl) rfl (by show 2 * 0 + _ ≤ _; exact Nat.le_of_eq rfl) (hb hby d5_36) (fun _ _ => ⟨rfl, e3, (by decide : 1 + 0 ≤ _), (by decide : 1 + 0 ≤ _)⟩)
    dsimp only [Pt.U, Pt.locs, Pt.cells, Pt.slots] at X4 l4 y4 z4 st4 hQ4
    subst l4 y4 z4
    obtain ⟨rfl, Nq4, K4, P4_0, P4_1⟩ := hQ4
    obtain ⟨Lo4, X4, N4⟩ : ∃ K, Stand p l e R5 s m #[(.long q1)] below meth c T4 K 1 1 ∧ Fr n0 K := ⟨_, X4, (Fr.app N0 Nq4)⟩
    refine own_jump (f' := (mkF m 39 #[.val (.long q1), .second, .val (.int (128 : Int32))] [(.ref b3)])) st4 ?_
    refine own_out (v := some (.ref b3)) X4 hlk (fun h => by rw [Bd.returns] at h; cases h) (fun fs hr => retOut X4 hx Bd.returns rfl (Or.inr (Or.inr (Or.inr (Or.inr ⟨rfl, rfl, rfl⟩)))) (hb hby d5_39) hr) (by decide) (by decide) ?_
    exact ⟨b3, rfl, N4, (((Keep.refl h0 []).ext E3).trans K4 (allS (Or.inr sz_b3) all0)), P4_0⟩
  · refine own_step (f' := (mkF m 20 #[.val (.long q1), .second, .val (.int (128 : Int32))] [])) (fun _ k => XS.ifNo X0.here hx rfl (hb hby d5_17) rfl ((if0 _ _).trans (flt (fun q => hc17_2 ((lw_gt _ _).mp q))).2.2.1) k) ?_
    obtain ⟨T5, X5, e5, st5⟩ := getS2 X0 hx hZ hown (host := "") (Or.inl (hw _ (List.mem_of_getElem? (i := 35) rfl))) Via.refl e0 S_cache (g := (mkF m 20 #[.val (.long q1), .second, .val (.int (128 : Int32))] [])) rfl (hb hby d5_20)
    refine own_step (f' := (mkF m 23 #[.val (.long q1), .second, .val (.int (128 : Int32))] [(.ref w1)])) st5 ?_
    refine own_step (f' := (mkF m 24 #[.val (.long q1), .second, .val (.int (128 : Int32))] [(.long q1), (.ref w1)])) (fun _ k => XS.lloadN X5.here hx rfl (hb hby d5_23) rfl k) ?_
    refine own_step (f' := (mkF m 25 #[.val (.long q1), .second, .val (.int (128 : Int32))] [(.int (q1.toInt32)), (.ref w1)])) (fun _ k => XS.l2i X5.here hx rfl (hb hby d5_24) rfl k) ?_
    refine own_step (f' := (mkF m 28 #[.val (.long q1), .second, .val (.int (128 : Int32))] [(.int (128 : Int32)), (.int (q1.toInt32)), (.ref w1)])) (fun _ k => XS.sipush X5.here hx rfl (hb hby d5_25) k) ?_
    refine own_step (f' := (mkF m 29 #[.val (.long q1), .second, .val (.int (128 : Int32))] [(.int ((q1.toInt32) + (128 : Int32))), (.ref w1)])) (fun _ k => XS.iadd X5.here hx rfl (hb hby d5_28) rfl k) ?_
    have hin : ¬ (((q1.toInt32) + (128 : Int32)) < 0 ∨ cl.slots.size ≤ (((q1.toInt32) + (128 : Int32))).toNatClampNeg) := own_cidx q1 cl hsz hq hc17_2
    obtain ⟨bx, hbx, Ebx⟩ := hbox _ hin
    have Ar := hArr.ext hOld.2
    refine own_step (f' := (mkF m 30 #[.val (.long q1), .second, .val (.int (128 : Int32))] [(.ref bx)])) (fun _ k => X5.aaload hx (j := ((q1.toInt32) + (128 : Int32))) (v := .ref bx) (by rw [e5]; exact Ar.1) (State.isArrayOf_alike hZ.alike Ar.2.1) rfl Ar.2.2 hin hbx (g := (mkF m 29 #[.val (.long q1), .second, .val (.int (128 : Int32))] [(.int ((q1.toInt32) + (128 : Int32))), (.ref w1)])) rfl rfl (hb hby d5_29) _ k) ?_
    refine own_out (v := some (.ref bx)) X5 hlk (fun h => by rw [Bd.returns] at h; cases h) (fun fs hr => retOut X5 hx Bd.returns rfl (Or.inr (Or.inr (Or.inr (Or.inr ⟨rfl, rfl, rfl⟩)))) (hb hby d5_30) hr) (by decide) (by decide) ?_
    rw [e5]
    exact ⟨bx, rfl, N0, (Keep.refl h0 []), (Ebx.ext hOld.2)⟩
def own_eq3 (x1 y1 : Int32) (x2 y2 x3 y3 : Int64) : Int32 := if x1 = y1 then (if x2 = y2 then (if x3 = y3 then 1 else 0) else 0) else 0
theorem own_root {Z : State} {a0 : Array Value} {O K : String} {n : Nat} (w : (Jvm.Cond.noSuperclass O).before a0 Z = true) (wk : (Jvm.Cond.instantiable K n).before a0 Z = true) (hn : O ≠ K) : NS Z O K := by
  obtain ⟨c, k, h1, h2, h3, -, -⟩ := Cond.noSuperclass_spec w
  obtain ⟨t, kt, g1, -, -, -, -, -⟩ := Cond.instantiable_spec wk
  have ne := ids_ne h1 g1 hn
  refine ⟨c, t, h1, g1, fun fuel => ?_⟩
  cases fuel with
  | zero => rfl
  | succ f => simp [Vm.isSubclassAux, ne, h2, h3]
theorem own_no {Z : State} {a0 : Array Value} {C S K : String} {n : Nat} (w : (Jvm.Cond.superclass C S).before a0 Z = true) (wk : (Jvm.Cond.instantiable K n).before a0 Z = true) (hN : NS Z C K) (hn : C ≠ K) : ∃ c t, Z.vm.findClass C = some c ∧ Z.vm.findClass K = some t ∧ Z.vm.assignable c t = false := by
  obtain ⟨c, t, h0, g0, n3⟩ := hN
  obtain ⟨p, k, kp, h1, h2, h3, h4, h5, -, h7⟩ := Cond.superclass_spec h0 w
  obtain ⟨t', kt, g1, g2, g3, g4, -, -⟩ := Cond.instantiable_spec wk
  cases g0.symm.trans g1
  have g5 : kt.isInterface = false := by
    cases hi : kt.isInterface with
    | false => rfl
    | true => rw [hi] at g4; simp at g4
  have ne := ids_ne h0 g0 hn
  refine ⟨c, t, h0, g0, ?_⟩
  show Z.vm.assignableAux (255 + 1) c t = false
  simp [Vm.assignableAux, ne, h2, g2, h5, g3, g5, Vm.isSubclass, n3]
theorem d6_0 : decode prog_17_method_9_code 0 = .ok (.aload_n 1, 1) := by decide +kernel
theorem d6_1 : decode prog_17_method_9_code 1 = .ok (.instanceof 9, 3) := by decide +kernel
theorem d6_4 : decode prog_17_method_9_code 4 = .ok (.ifCond .ne 5, 3) := by decide +kernel
theorem d6_9 : decode prog_17_method_9_code 9 = .ok (.aload_n 1, 1) := by decide +kernel
theorem d6_10 : decode prog_17_method_9_code 10 = .ok (.checkcast 9, 3) := by decide +kernel
theorem d6_13 : decode prog_17_method_9_code 13 = .ok (.astore_n 2, 1) := by decide +kernel
theorem d6_14 : decode prog_17_method_9_code 14 = .ok (.aload_n 0, 1) := by decide +kernel
theorem d6_15 : decode prog_17_method_9_code 15 = .ok (.getfield 28, 3) := by decide +kernel
theorem d6_18 : decode prog_17_method_9_code 18 = .ok (.aload_n 2, 1) := by decide +kernel
theorem d6_19 : decode prog_17_method_9_code 19 = .ok (.getfield 28, 3) := by decide +kernel
theorem d6_22 : decode prog_17_method_9_code 22 = .ok (.if_icmp .ne 31, 3) := by decide +kernel
theorem d6_25 : decode prog_17_method_9_code 25 = .ok (.aload_n 0, 1) := by decide +kernel
theorem d6_26 : decode prog_17_method_9_code 26 = .ok (.getfield 32, 3) := by decide +kernel
theorem d6_29 : decode prog_17_method_9_code 29 = .ok (.aload_n 2, 1) := by decide +kernel
theorem d6_30 : decode prog_17_method_9_code 30 = .ok (.getfield 32, 3) := by decide +kernel
theorem d6_33 : decode prog_17_method_9_code 33 = .ok (.lcmp, 1) := by decide +kernel
theorem d6_34 : decode prog_17_method_9_code 34 = .ok (.ifCond .ne 19, 3) := by decide +kernel
theorem d6_37 : decode prog_17_method_9_code 37 = .ok (.aload_n 0, 1) := by decide +kernel
theorem d6_38 : decode prog_17_method_9_code 38 = .ok (.getfield 36, 3) := by decide +kernel
theorem d6_41 : decode prog_17_method_9_code 41 = .ok (.aload_n 2, 1) := by decide +kernel
theorem d6_42 : decode prog_17_method_9_code 42 = .ok (.getfield 36, 3) := by decide +kernel
theorem d6_45 : decode prog_17_method_9_code 45 = .ok (.lcmp, 1) := by decide +kernel
theorem d6_46 : decode prog_17_method_9_code 46 = .ok (.ifCond .ne 7, 3) := by decide +kernel
theorem d6_49 : decode prog_17_method_9_code 49 = .ok (.iconst 1, 1) := by decide +kernel
theorem d6_50 : decode prog_17_method_9_code 50 = .ok (.goto 4, 3) := by decide +kernel
theorem d6_53 : decode prog_17_method_9_code 53 = .ok (.iconst 0, 1) := by decide +kernel
theorem d6_54 : decode prog_17_method_9_code 54 = .ok (.ireturn, 1) := by decide +kernel
theorem ef_6r (m : MethodId) (x0 : Addr) (x1 : Addr) : entryFrame m #[(.ref x0), (.ref x1)] 3 = mkF m 0 #[.val (.ref x0), .val (.ref x1), .unset] [] := by first | (simp [entryFrame, mkF, argsToLocals, Value.category]; done) | rfl
def Q6r (Z : State) (a1 : Addr) (a2 : Addr) (x1 : Int32) (x2 : Int64) (x3 : Int64) (y1 : Int32) (y2 : Int64) (y3 : Int64) (h0 : Heap) (n0 : Nat) (v : Option Value) (h : Heap) (L : List Loc) : Prop := v = some (.int (own_eq3 x1 y1 x2 y2 x3 y3)) ∧ L = [] ∧ h = h0
abbrev R6r : Room := { frames := 0, cells := 0, slots := 0, locals := 0 }
set_option maxRecDepth 65536 in
set_option maxHeartbeats 40000000 in
theorem rm6r (l : Launch) (Z : State) (a0 : Array Value) (hw : ∀ d ∈ tables_1, d.before a0 Z = true) (ws : List Jvm.Cond) (a1 : Addr) (a2 : Addr) (x1 : Int32) (x2 : Int64) (x3 : Int64) (y1 : Int32) (y2 : Int64) (y3 : Int64) (h0 : Heap) (n0 : Nat) (Z0 : n0 ≤ h0.size) (E_a2 : Exa Z h0 a2 "com/example/kookaburra/kookaburra/core/RetryPolicy") (F_maxAttempts_a1 : Fld Z h0 a1 "com/example/kookaburra/kookaburra/core/RetryPolicy" "maxAttempts" "I" (.int x1)) (F_initialBackoffMillis_a1 : Fld Z h0 a1 "com/example/kookaburra/kookaburra/core/RetryPolicy" "initialBackoffMillis" "J" (.long x2)) (F_maxBackoffMillis_a1 : Fld Z h0 a1 "com/example/kookaburra/kookaburra/core/RetryPolicy" "maxBackoffMillis" "J" (.long x3)) (F_maxAttempts_a2 : Fld Z h0 a2 "com/example/kookaburra/kookaburra/core/RetryPolicy" "maxAttempts" "I" (.int y1)) (F_initialBackoffMillis_a2 : Fld Z h0 a2 "com/example/kookaburra/kookaburra/core/RetryPolicy" "initialBackoffMillis" "J" (.long y2)) (F_maxBackoffMillis_a2 : Fld Z h0 a2 "com/example/kookaburra/kookaburra/core/RetryPolicy" "maxBackoffMillis" "J" (.long y3)) :
    MetFree l (⟨"com/example/kookaburra/kookaburra/core/RetryPolicy", "equals", "(Ljava/lang/Object;)Z"⟩ : MethodName) (head1 (Jvm.Cond.code (⟨"com/example/kookaburra/kookaburra/core/RetryPolicy", "equals", "(Ljava/lang/Object;)Z"⟩ : MethodName) prog_17_method_9_code 3 (some .boolean) :: ws) R6r) (fun a U => a = #[(.ref a1), (.ref a2)] ∧ Z.Warmed39 U.vm ∧ U.heap = h0) (fun _ _ _ _ _ => True) (fun _ U o U' => ∃ v L, o = .returned v ∧ Q6r Z a1 a2 x1 x2 x3 y1 y2 y3 h0 n0 v U'.heap L ∧ FrameEnd U o U' L R6r.cells R6r.slots) := by
  refine MetFree.of_bodySF (plainFor_of_name pn_0) hisR ?_
  intro p e s m args below meth c s₁ Bd hml0 hP hK
  obtain ⟨rfl, hZ, hh⟩ := hP
  have hx := Bd.exec
  have hby := Bd.bytes
  have hlk : meth.locks = false := BodyLoose.notSynchronized Bd
  have hml : c.maxLocals = 3 := hml0
  have hown : s.vm.findClass "com/example/kookaburra/kookaburra/core/RetryPolicy" = some m.cls := findClass_of_methodNamed Bd.named
  have hnm := (name_of_methodNamed Bd.named Bd.method).1
  have X0 : Stand p l e R6r s m #[(.ref a1), (.ref a2)] below meth c s₁ [] 0 0 := Stand.of_body Bd
  have e0 : s₁.heap = h0 := by rw [← hh, Bd.state]; rfl
  have N0 := Fr.nil n0
  show own_Goes p e below s (Q6r Z a1 a2 x1 x2 x3 y1 y2 y3 h0 n0) R6r.cells R6r.slots s₁ (entryFrame m #[(.ref a1), (.ref a2)] 3)
  rw [ef_6r m a1 a2]
  refine own_step (f' := (mkF m 1 #[.val (.ref a1), .val (.ref a2), .unset] [(.ref a2)])) (fun _ k => XS.aloadN X0.here hx rfl (hb hby d6_0) rfl rfl k) ?_
  obtain ⟨T1, X1, e1, st1⟩ := instY X0 hx hZ hown (hw _ (List.mem_of_getElem? (i := 42) rfl)) e0 (Ins.self E_a2) (g := (mkF m 1 #[.val (.ref a1), .val (.ref a2), .unset] [(.ref a2)])) rfl rfl (hb hby d6_1)
  refine own_step (f' := (mkF m 4 #[.val (.ref a1), .val (.ref a2), .unset] [(.int (1 : Int32))])) st1 ?_
  refine own_step (f' := (mkF m 9 #[.val (.ref a1), .val (.ref a2), .unset] [])) (fun _ k => XS.ifYes X1.here hx rfl (pc0 := 4) (pc' := 9) rfl (hb hby d6_4) rfl ((if0 _ _).trans (feq (by decide : ¬ ((1 : Int32) = (0 : Int32)))).2) (by decide) (by decide) k) ?_
  refine own_step (f' := (mkF m 10 #[.val (.ref a1), .val (.ref a2), .unset] [(.ref a2)])) (fun _ k => XS.aloadN X1.here hx rfl (hb hby d6_9) rfl rfl k) ?_
  obtain ⟨T2, X2, e2, st2⟩ := castY X1 hx hZ hown (hw _ (List.mem_of_getElem? (i := 42) rfl)) e1 (Ins.self E_a2) (g := (mkF m 10 #[.val (.ref a1), .val (.ref a2), .unset] [(.ref a2)])) rfl rfl (hb hby d6_10)
  refine own_step (f' := (mkF m 13 #[.val (.ref a1), .val (.ref a2), .unset] [(.ref a2)])) st2 ?_
  refine own_step (f' := (mkF m 14 #[.val (.ref a1), .val (.ref a2), .val (.ref a2)] [])) (fun _ k => XS.astoreN X2.here hx rfl (hb hby d6_13) rfl rfl (l' := #[.val (.ref a1), .val (.ref a2), .val (.ref a2)]) rfl k) ?_
  refine own_step (f' := (mkF m 15 #[.val (.ref a1), .val (.ref a2), .val (.ref a2)] [(.ref a1)])) (fun _ k => XS.aloadN X2.here hx rfl (hb hby d6_14) rfl rfl k) ?_
  obtain ⟨T3, X3, e3, st3⟩ := getF X2 hx hZ hown (host := "") (Or.inl (hw _ (List.mem_of_getElem? (i := 23) rfl))) Via.refl e2 F_maxAttempts_a1 (g := (mkF m 15 #[.val (.ref a1), .val (.ref a2), .val (.ref a2)] [(.ref a1)])) rfl rfl (hb hby d6_15)
  refine own_step (f' := (mkF m 18 #[.val (.ref a1), .val (.ref a2), .val (.ref a2)] [(.int x1)])) st3 ?_
  refine own_step (f' := (mkF m 19 #[.val (.ref a1), .val (.ref a2), .val (.ref a2)] [(.ref a2), (.int x1)])) (fun _ k => XS.aloadN X3.here hx rfl (hb hby d6_18) rfl rfl k) ?_
  obtain ⟨T4, X4, e4, st4⟩ := getF X3 hx hZ hown (host := "") (Or.inl (hw _ (List.mem_of_getElem? (i := 23) rfl))) Via.refl e3 F_maxAttempts_a2 (g := (mkF m 19 #[.val (.ref a1), .val (.ref a2), .val (.ref a2)] [(.ref a2), (.int x1)])) rfl rfl (hb hby d6_19)
  refine own_step (f' := (mkF m 22 #[.val (.ref a1), .val (.ref a2), .val (.ref a2)] [(.int y1), (.int x1)])) st4 ?_
  by_cases hc22_5 : x1 = y1
  · refine own_step (f' := (mkF m 25 #[.val (.ref a1), .val (.ref a2), .val (.ref a2)] [])) (fun _ k => XS.icmpNo X4.here hx rfl (hb hby d6_22) rfl (teq hc22_5).2 k) ?_
    refine own_step (f' := (mkF m 26 #[.val (.ref a1), .val (.ref a2), .val (.ref a2)] [(.ref a1)])) (fun _ k => XS.aloadN X4.here hx rfl (hb hby d6_25) rfl rfl k) ?_
    obtain ⟨T6, X6, e6, st6⟩ := getF X4 hx hZ hown (host := "") (Or.inl (hw _ (List.mem_of_getElem? (i := 25) rfl))) Via.refl e4 F_initialBackoffMillis_a1 (g := (mkF m 26 #[.val (.ref a1), .val (.ref a2), .val (.ref a2)] [(.ref a1)])) rfl rfl (hb hby d6_26)
    refine own_step (f' := (mkF m 29 #[.val (.ref a1), .val (.ref a2), .val (.ref a2)] [(.long x2)])) st6 ?_
    refine own_step (f' := (mkF m 30 #[.val (.ref a1), .val (.ref a2), .val (.ref a2)] [(.ref a2), (.long x2)])) (fun _ k => XS.aloadN X6.here hx rfl (hb hby d6_29) rfl rfl k) ?_
    obtain ⟨T7, X7, e7, st7⟩ := getF X6 hx hZ hown (host := "") (Or.inl (hw _ (List.mem_of_getElem? (i := 25) rfl))) Via.refl e6 F_initialBackoffMillis_a2 (g := (mkF m 30 #[.val (.ref a1), .val (.ref a2), .val (.ref a2)] [(.ref a2), (.long x2)])) rfl rfl (hb hby d6_30)
    refine own_step (f' := (mkF m 33 #[.val (.ref a1), .val (.ref a2), .val (.ref a2)] [(.long y2), (.long x2)])) st7 ?_
    refine own_step (f' := (mkF m 34 #[.val (.ref a1), .val (.ref a2), .val (.ref a2)] [(.int (lcmpW x2 y2))])) (fun _ k => XS.lcmp X7.here hx rfl (hb hby d6_33) rfl k) ?_
    by_cases hc34_8 : x2 = y2
    · refine own_step (f' := (mkF m 37 #[.val (.ref a1), .val (.ref a2), .val (.ref a2)] [])) (fun _ k => XS.ifNo X7.here hx rfl (hb hby d6_34) rfl ((if0 _ _).trans (teq ((lw_eq _ _).mpr hc34_8)).2) k) ?_
      refine own_step (f' := (mkF m 38 #[.val (.ref a1), .val (.ref a2), .val (.ref a2)] [(.ref a1)])) (fun _ k => XS.aloadN X7.here hx rfl (hb hby d6_37) rfl rfl k) ?_
      obtain ⟨T9, X9, e9, st9⟩ := getF X7 hx hZ hown (host := "") (Or.inl (hw _ (List.mem_of_getElem? (i := 27) rfl))) Via.refl e7 F_maxBackoffMillis_a1 (g := (mkF m 38 #[.val (.ref a1), .val (.ref a2), .val (.ref a2)] [(.ref a1)])) rfl rfl (hb hby d6_38)
      refine own_step (f' := (mkF m 41 #[.val (.ref a1), .val (.ref a2), .val (.ref a2)] [(.long x3)])) st9 ?_
      refine own_step (f' := (mkF m 42 #[.val (.ref a1), .val (.ref a2), .val (.ref a2)] [(.ref a2), (.long x3)])) (fun _ k => XS.aloadN X9.here hx rfl (hb hby d6_41) rfl rfl k) ?_
      obtain ⟨T10, X10, e10, st10⟩ := getF X9 hx hZ hown (host := "") (Or.inl (hw _ (List.mem_of_getElem? (i := 27) rfl))) Via.refl e9 F_maxBackoffMillis_a2 (g := (mkF m 42 #[.val (.ref a1), .val (.ref a2), .val (.ref a2)] [(.ref a2), (.long x3)])) rfl rfl (hb hby d6_42)
      refine own_step (f' := (mkF m 45 #[.val (.ref a1), .val (.ref a2), .val (.ref a2)] [(.long y3), (.long x3)])) st10 ?_
      refine own_step (f' := (mkF m 46 #[.val (.ref a1), .val (.ref a2), .val (.ref a2)] [(.int (lcmpW x3 y3))])) (fun _ k => XS.lcmp X10.here hx rfl (hb hby d6_45) rfl k) ?_
      by_cases hc46_11 : x3 = y3
      · refine own_step (f' := (mkF m 49 #[.val (.ref a1), .val (.ref a2), .val (.ref a2)] [])) (fun _ k => XS.ifNo X10.here hx rfl (hb hby d6_46) rfl ((if0 _ _).trans (teq ((lw_eq _ _).mpr hc46_11)).2) k) ?_
        refine own_step (f' := (mkF m 50 #[.val (.ref a1), .val (.ref a2), .val (.ref a2)] [(.int (1 : Int32))])) (fun _ k => XS.iconst X10.here hx rfl (hb hby d6_49) k) ?_
        refine own_step (f' := (mkF m 54 #[.val (.ref a1), .val (.ref a2), .val (.ref a2)] [(.int (1 : Int32))])) (fun _ k => XS.goto X10.here hx rfl (pc0 := 50) (pc' := 54) rfl (hb hby d6_50) (by decide) (by decide) k) ?_
        refine own_out (v := some (.int (1 : Int32))) X10 hlk (fun h => by rw [Bd.returns] at h; cases h) (fun fs hr => retN X10 hx (t := .boolean) Bd.returns (by simp) (hb hby d6_54) hr) (by decide) (by decide) ?_
        rw [e10]
        exact ⟨(by rw [own_eq3, if_pos hc22_5, if_pos hc34_8, if_pos hc46_11]), rfl, rfl⟩
      · refine own_step (f' := (mkF m 53 #[.val (.ref a1), .val (.ref a2), .val (.ref a2)] [])) (fun _ k => XS.ifYes X10.here hx rfl (pc0 := 46) (pc' := 53) rfl (hb hby d6_46) rfl ((if0 _ _).trans (feq (fun q => hc46_11 ((lw_eq _ _).mp q))).2) (by decide) (by decide) k) ?_
        refine own_step (f' := (mkF m 54 #[.val (.ref a1), .val (.ref a2), .val (.ref a2)] [(.int (0 : Int32))])) (fun _ k => XS.iconst X10.here hx rfl (hb hby d6_53) k) ?_
        refine own_out (v := some (.int (0 : Int32))) X10 hlk (fun h => by rw [Bd.returns] at h; cases h) (fun fs hr => retN X10 hx (t := .boolean) Bd.returns (by simp) (hb hby d6_54) hr) (by decide) (by decide) ?_
        rw [e10]
        exact ⟨(by rw [own_eq3, if_pos hc22_5, if_pos hc34_8, if_neg hc46_11]), rfl, rfl⟩
    · refine own_step (f' := (mkF m 53 #[.val (.ref a1), .val (.ref a2), .val (.ref a2)] [])) (fun _ k => XS.ifYes X7.here hx rfl (pc0 := 34) (pc' := 53) rfl (hb hby d6_34) rfl ((if0 _ _).trans (feq (fun q => hc34_8 ((lw_eq _ _).mp q))).2) (by decide) (by decide) k) ?_
      refine own_step (f' := (mkF m 54 #[.val (.ref a1), .val (.ref a2), .val (.ref a2)] [(.int (0 : Int32))])) (fun _ k => XS.iconst X7.here hx rfl (hb hby d6_53) k) ?_
      refine own_out (v := some (.int (0 : Int32))) X7 hlk (fun h => by rw [Bd.returns] at h; cases h) (fun fs hr => retN X7 hx (t := .boolean) Bd.returns (by simp) (hb hby d6_54) hr) (by decide) (by decide) ?_
      rw [e7]
      exact ⟨(by rw [own_eq3, if_pos hc22_5, if_neg hc34_8]), rfl, rfl⟩
  · refine own_step (f' := (mkF m 53 #[.val (.ref a1), .val (.ref a2), .val (.ref a2)] [])) (fun _ k => XS.icmpYes X4.here hx rfl (pc0 := 22) (pc' := 53) rfl (hb hby d6_22) rfl (feq hc22_5).2 (by decide) (by decide) k) ?_
    refine own_step (f' := (mkF m 54 #[.val (.ref a1), .val (.ref a2), .val (.ref a2)] [(.int (0 : Int32))])) (fun _ k => XS.iconst X4.here hx rfl (hb hby d6_53) k) ?_
    refine own_out (v := some (.int (0 : Int32))) X4 hlk (fun h => by rw [Bd.returns] at h; cases h) (fun fs hr => retN X4 hx (t := .boolean) Bd.returns (by simp) (hb hby d6_54) hr) (by decide) (by decide) ?_
    rw [e4]
    exact ⟨(by rw [own_eq3, if_neg hc22_5]), rfl, rfl⟩
theorem d6_7 : decode prog_17_method_9_code 7 = .ok (.iconst 0, 1) := by decide +kernel
theorem d6_8 : decode prog_17_method_9_code 8 = .ok (.ireturn, 1) := by decide +kernel
theorem ef_6n (m : MethodId) (x0 : Addr) : entryFrame m #[(.ref x0), .null] 3 = mkF m 0 #[.val (.ref x0), .val .null, .unset] [] := by first | (simp [entryFrame, mkF, argsToLocals, Value.category]; done) | rfl
def Q6n (Z : State) (a1 : Addr) (h0 : Heap) (n0 : Nat) (v : Option Value) (h : Heap) (L : List Loc) : Prop := v = some (.int (0 : Int32)) ∧ L = [] ∧ h = h0
abbrev R6n : Room := { frames := 0, cells := 0, slots := 0, locals := 0 }
set_option maxRecDepth 65536 in
set_option maxHeartbeats 40000000 in
theorem rm6n (l : Launch) (Z : State) (a0 : Array Value) (hw : ∀ d ∈ tables_1, d.before a0 Z = true) (ws : List Jvm.Cond) (a1 : Addr) (h0 : Heap) (n0 : Nat) (Z0 : n0 ≤ h0.size)  :
    MetFree l (⟨"com/example/kookaburra/kookaburra/core/RetryPolicy", "equals", "(Ljava/lang/Object;)Z"⟩ : MethodName) (head1 (Jvm.Cond.code (⟨"com/example/kookaburra/kookaburra/core/RetryPolicy", "equals", "(Ljava/lang/Object;)Z"⟩ : MethodName) prog_17_method_9_code 3 (some .boolean) :: ws) R6n) (fun a U => a = #[(.ref a1), .null] ∧ Z.Warmed39 U.vm ∧ U.heap = h0) (fun _ _ _ _ _ => True) (fun _ U o U' => ∃ v L, o = .returned v ∧ Q6n Z a1 h0 n0 v U'.heap L ∧ FrameEnd U o U' L R6n.cells R6n.slots) := by
  refine MetFree.of_bodySF (plainFor_of_name pn_0) hisR ?_
  intro p e s m args below meth c s₁ Bd hml0 hP hK
  obtain ⟨rfl, hZ, hh⟩ := hP
  have hx := Bd.exec
  have hby := Bd.bytes
  have hlk : meth.locks = false := BodyLoose.notSynchronized Bd
  have hml : c.maxLocals = 3 := hml0
  have hown : s.vm.findClass "com/example/kookaburra/kookaburra/core/RetryPolicy" = some m.cls := findClass_of_methodNamed Bd.named
  have hnm := (name_of_methodNamed Bd.named Bd.method).1
  have X0 : Stand p l e R6n s m #[(.ref a1), .null] below meth c s₁ [] 0 0 := Stand.of_body Bd
  have e0 : s₁.heap = h0 := by rw [← hh, Bd.state]; rfl
  have N0 := Fr.nil n0
  show own_Goes p e below s (Q6n Z a1 h0 n0) R6n.cells R6n.slots s₁ (entryFrame m #[(.ref a1), .null] 3)
  rw [ef_6n m a1]
  refine own_step (f' := (mkF m 1 #[.val (.ref a1), .val .null, .unset] [.null])) (fun _ k => XS.aloadN X0.here hx rfl (hb hby d6_0) rfl rfl k) ?_
  refine own_step (f' := (mkF m 4 #[.val (.ref a1), .val .null, .unset] [(.int (0 : Int32))])) (fun _ k => X0.instanceofNull hx (g := (mkF m 1 #[.val (.ref a1), .val .null, .unset] [.null])) rfl rfl (hb hby d6_1) _ k) ?_
  refine own_step (f' := (mkF m 7 #[.val (.ref a1), .val .null, .unset] [])) (fun _ k => XS.ifNo X0.here hx rfl (hb hby d6_4) rfl ((if0 _ _).trans (teq (by decide : ((0 : Int32) = (0 : Int32)))).2) k) ?_
  refine own_step (f' := (mkF m 8 #[.val (.ref a1), .val .null, .unset] [(.int (0 : Int32))])) (fun _ k => XS.iconst X0.here hx rfl (hb hby d6_7) k) ?_
  refine own_out (v := some (.int (0 : Int32))) X0 hlk (fun h => by rw [Bd.returns] at h; cases h) (fun fs hr => retN X0 hx (t := .boolean) Bd.returns (by simp) (hb hby d6_8) hr) (by decide) (by decide) ?_
  rw [e0]
  exact ⟨rfl, rfl, rfl⟩
theorem ef_6l (m : MethodId) (x0 : Addr) (x1 : Addr) : entryFrame m #[(.ref x0), (.ref x1)] 3 = mkF m 0 #[.val (.ref x0), .val (.ref x1), .unset] [] := by first | (simp [entryFrame, mkF, argsToLocals, Value.category]; done) | rfl
def Q6l (Z : State) (a1 : Addr) (a2 : Addr) (h0 : Heap) (n0 : Nat) (v : Option Value) (h : Heap) (L : List Loc) : Prop := v = some (.int (0 : Int32)) ∧ L = [] ∧ h = h0
abbrev R6l : Room := { frames := 0, cells := 0, slots := 0, locals := 0 }
set_option maxRecDepth 65536 in
set_option maxHeartbeats 40000000 in
theorem rm6l (l : Launch) (Z : State) (a0 : Array Value) (hw : ∀ d ∈ tables_1, d.before a0 Z = true) (ws : List Jvm.Cond) (a1 : Addr) (a2 : Addr) (h0 : Heap) (n0 : Nat) (Z0 : n0 ≤ h0.size) (E_a2 : Exa Z h0 a2 "java/lang/Long") :
    MetFree l (⟨"com/example/kookaburra/kookaburra/core/RetryPolicy", "equals", "(Ljava/lang/Object;)Z"⟩ : MethodName) (head1 (Jvm.Cond.code (⟨"com/example/kookaburra/kookaburra/core/RetryPolicy", "equals", "(Ljava/lang/Object;)Z"⟩ : MethodName) prog_17_method_9_code 3 (some .boolean) :: ws) R6l) (fun a U => a = #[(.ref a1), (.ref a2)] ∧ Z.Warmed39 U.vm ∧ U.heap = h0) (fun _ _ _ _ _ => True) (fun _ U o U' => ∃ v L, o = .returned v ∧ Q6l Z a1 a2 h0 n0 v U'.heap L ∧ FrameEnd U o U' L R6l.cells R6l.slots) := by
  refine MetFree.of_bodySF (plainFor_of_name pn_0) hisR ?_
  intro p e s m args below meth c s₁ Bd hml0 hP hK
  obtain ⟨rfl, hZ, hh⟩ := hP
  have hx := Bd.exec
  have hby := Bd.bytes
  have hlk : meth.locks = false := BodyLoose.notSynchronized Bd
  have hml : c.maxLocals = 3 := hml0
  have hown : s.vm.findClass "com/example/kookaburra/kookaburra/core/RetryPolicy" = some m.cls := findClass_of_methodNamed Bd.named
  have hnm := (name_of_methodNamed Bd.named Bd.method).1
  have X0 : Stand p l e R6l s m #[(.ref a1), (.ref a2)] below meth c s₁ [] 0 0 := Stand.of_body Bd
  have e0 : s₁.heap = h0 := by rw [← hh, Bd.state]; rfl
  have N0 := Fr.nil n0
  show own_Goes p e below s (Q6l Z a1 a2 h0 n0) R6l.cells R6l.slots s₁ (entryFrame m #[(.ref a1), (.ref a2)] 3)
  rw [ef_6l m a1 a2]
  refine own_step (f' := (mkF m 1 #[.val (.ref a1), .val (.ref a2), .unset] [(.ref a2)])) (fun _ k => XS.aloadN X0.here hx rfl (hb hby d6_0) rfl rfl k) ?_
  obtain ⟨T1, X1, e1, st1⟩ := instNo X0 hx hZ hown (hw _ (List.mem_of_getElem? (i := 42) rfl)) e0 E_a2 (own_no (hw _ (List.mem_of_getElem? (i := 44) rfl)) (hw _ (List.mem_of_getElem? (i := 13) rfl)) (NS.step (hw _ (List.mem_of_getElem? (i := 44) rfl)) (NS.step (hw _ (List.mem_of_getElem? (i := 45) rfl)) (own_root (hw _ (List.mem_of_getElem? (i := 46) rfl)) (hw _ (List.mem_of_getElem? (i := 13) rfl)) (by decide)) (by decide)) (by decide)) (by decide)) (g := (mkF m 1 #[.val (.ref a1), .val (.ref a2), .unset] [(.ref a2)])) rfl rfl (hb hby d6_1)
  refine own_step (f' := (mkF m 4 #[.val (.ref a1), .val (.ref a2), .unset] [(.int (0 : Int32))])) st1 ?_
  refine own_step (f' := (mkF m 7 #[.val (.ref a1), .val (.ref a2), .unset] [])) (fun _ k => XS.ifNo X1.here hx rfl (hb hby d6_4) rfl ((if0 _ _).trans (teq (by decide : ((0 : Int32) = (0 : Int32)))).2) k) ?_
  refine own_step (f' := (mkF m 8 #[.val (.ref a1), .val (.ref a2), .unset] [(.int (0 : Int32))])) (fun _ k => XS.iconst X1.here hx rfl (hb hby d6_7) k) ?_
  refine own_out (v := some (.int (0 : Int32))) X1 hlk (fun h => by rw [Bd.returns] at h; cases h) (fun fs hr => retN X1 hx (t := .boolean) Bd.returns (by simp) (hb hby d6_8) hr) (by decide) (by decide) ?_
  rw [e1]
  exact ⟨rfl, rfl, rfl⟩
theorem own_q2 (x : Int64) : 1 ≤ ((1 : Int64) + ((x &&& (2147483647 : Int64)) % (100 : Int64))).toInt ∧ ((1 : Int64) + ((x &&& (2147483647 : Int64)) % (100 : Int64))).toInt ≤ 100 := by
  have h := own_m x
  omega
theorem own_a2 (s : Int32) (x v : Int64) (hv : v = if s &&& (1 : Int32) = (0 : Int32) then ((1 : Int64) + ((((x.toUInt64 >>> ((32 : Int32) &&& 0x3f).toInt64.toUInt64).toInt64) &&& (2147483647 : Int64)) % (100 : Int64))) else ((1 : Int64) + ((x &&& (2147483647 : Int64)) % (100 : Int64)))) : 1 ≤ v.toInt ∧ v.toInt ≤ 100 := by
  subst hv
  split
  · exact own_q2 _
  · exact own_q2 _
theorem own_i2 (s : Int32) (i j v : Int64) (hv : v = if s &&& (2 : Int32) = (0 : Int32) then (own_ini j) else (own_ini i)) : 100 ≤ v.toInt ∧ v.toInt ≤ 3155760000000 := by
  subst hv
  split
  · exact own_iniB _
  · exact own_iniB _
theorem own_m2 (s : Int32) (m1 i2 n v : Int64) (hm : m1.toInt ≤ 3155760000000) (hi : 100 ≤ i2.toInt ∧ i2.toInt ≤ 3155760000000) (hv : v = if s &&& (4 : Int32) = (0 : Int32) then (own_most i2 n) else (if m1 < i2 then (own_most i2 n) else m1)) : i2.toInt ≤ v.toInt ∧ v.toInt ≤ 3155760000000 := by
  subst hv
  split
  · exact own_mostB _ _ hi
  · split
    · exact own_mostB _ _ hi
    · rename_i h1 h2
      rw [Int64.lt_iff_toInt_lt] at h2
      omega
theorem own_fin (a1 a2 i1 i2 m1 m2 : Int64) (v : Int32) (h1 : 1 ≤ a1.toInt ∧ a1.toInt ≤ 100) (h2 : 1 ≤ a2.toInt ∧ a2.toInt ≤ 100) (hv : v = if a1 = a2 then (if i1 = i2 then (if m1 = m2 then (1 : Int32) else (0 : Int32)) else (0 : Int32)) else (0 : Int32)) :
    own_eq3 a1.toInt32 a2.toInt32 i1 i2 m1 m2 = v ∧ own_eq3 a2.toInt32 a1.toInt32 i2 i1 m2 m1 = v ∧ ¬ (own_eq3 a1.toInt32 a1.toInt32 i1 i1 m1 m1 = (0 : Int32)) := by
  have e : a1.toInt32 = a2.toInt32 ↔ a1 = a2 := by
    rw [← Int32.toInt_inj, ← Int64.toInt_inj]
    have g1 := c_l2i a1
    have g2 := c_l2i a2
    have g3 := rng32 a1.toInt32
    have g4 := rng32 a2.toInt32
    omega
  subst hv
  unfold own_eq3
  refine ⟨by simp only [e], ?_, ?_⟩
  · simp only [eq_comm (a := a2.toInt32), eq_comm (a := i2), eq_comm (a := m2), e]
  · rw [if_pos rfl, if_pos rfl, if_pos rfl]; decide
theorem pd_2 : parseMethodDescriptor "(J)J" = some ⟨[.long], some .long⟩ := by decide +kernel
theorem pd_3 : parseMethodDescriptor "(JJ)J" = some ⟨[.long, .long], some .long⟩ := by decide +kernel
theorem pd_4 : parseMethodDescriptor "(JJJ)V" = some ⟨[.long, .long, .long], none⟩ := by decide +kernel
theorem pd_5 : parseMethodDescriptor "(J)Ljava/lang/Long;" = some ⟨[.long], some (.object "java/lang/Long")⟩ := by decide +kernel
theorem pd_6 : parseMethodDescriptor "(Ljava/lang/Object;)Z" = some ⟨[(.object "java/lang/Object")], some .boolean⟩ := by decide +kernel
theorem ef_0 (m : MethodId) (x0 : Int64) (x1 : Int64) (x2 : Int64) (x3 : Int64) (x4 : Int64) (x5 : Int32) : entryFrame m #[(.long x0), (.long x1), (.long x2), (.long x3), (.long x4), (.int x5)] maxLocals = mkF m 0 #[.val (.long x0), .second, .val (.long x1), .second, .val (.long x2), .second, .val (.long x3), .second, .val (.long x4), .second, .val (.int x5), .unset, .unset, .unset, .unset, .unset, .unset, .unset, .unset, .unset, .unset, .unset, .unset, .unset, .unset, .unset, .unset] [] := by first | (simp [entryFrame, mkF, argsToLocals, Value.category, maxLocals]; done) | rfl
def Q0 (Z : State) (q1 : Int64) (q2 : Int64) (q3 : Int64) (q4 : Int64) (q5 : Int64) (i6 : Int32) (w1 : Addr) (cl : Cell) (h0 : Heap) (n0 : Nat) (v : Option Value) (h : Heap) (L : List Loc) : Prop := v = some (.int 1) ∧ Fr n0 L
set_option maxRecDepth 65536 in
set_option maxHeartbeats 40000000 in
theorem rm0 (l : Launch) (Z : State) (a0 : Array Value) (hw : ∀ d ∈ tables_1, d.before a0 Z = true) (ws : List Jvm.Cond) (q1 : Int64) (q2 : Int64) (q3 : Int64) (q4 : Int64) (q5 : Int64) (i6 : Int32) (w1 : Addr) (cl : Cell) (h0 : Heap) (n0 : Nat) (Z0 : n0 ≤ h0.size) (S_cache : Sta Z h0 "java/lang/Long$LongCache" "cache" "[Ljava/lang/Long;" (.ref w1)) (hArr : Arr Z Z.heap w1 cl (.object "java/lang/Long")) (hsz : cl.slots.size = 256) (hbox : ∀ j : Int32, ¬ (j < 0 ∨ cl.slots.size ≤ j.toNatClampNeg) → ∃ b : Addr, cl.slots[j.toNatClampNeg]? = some (.ref b) ∧ Exa Z Z.heap b "java/lang/Long") (hOld : Old Z n0 h0) :
    MetFree l x (head1 (Jvm.Cond.code x code maxLocals ret :: ws) room_1) (fun a U => a = #[(.long q1), (.long q2), (.long q3), (.long q4), (.long q5), (.int i6)] ∧ Z.Warmed39 U.vm ∧ U.heap = h0) (fun _ _ _ _ _ => True) (fun _ U o U' => ∃ v L, o = .returned v ∧ Q0 Z q1 q2 q3 q4 q5 i6 w1 cl h0 n0 v U'.heap L ∧ FrameEnd U o U' L room_1.cells room_1.slots) := by
  refine MetFree.of_bodySF (plainFor_of_name pn_1) hisR ?_
  intro p e s m args below meth c s₁ Bd hml0 hP hK
  obtain ⟨rfl, hZ, hh⟩ := hP
  have hx := Bd.exec
  have hby := Bd.bytes
  have hlk : meth.locks = false := BodyLoose.notSynchronized Bd
  have hml : c.maxLocals = 27 := hml0
  have hown : s.vm.findClass "com/example/kookaburra/kookaburra/core/RetryPolicyEqualsPinLaw" = some m.cls := findClass_of_methodNamed Bd.named
  have hnm := (name_of_methodNamed Bd.named Bd.method).1
  have X0 : Stand p l e room_1 s m #[(.long q1), (.long q2), (.long q3), (.long q4), (.long q5), (.int i6)] below meth c s₁ [] 0 0 := Stand.of_body Bd
  have e0 : s₁.heap = h0 := by rw [← hh, Bd.state]; rfl
  have N0 := Fr.nil n0
  show own_Goes p e below s (Q0 Z q1 q2 q3 q4 q5 i6 w1 cl h0 n0) room_1.cells room_1.slots s₁ (entryFrame m #[(.long q1), (.long q2), (.long q3), (.long q4), (.long q5), (.int i6)] maxLocals)
  rw [ef_0 m q1 q2 q3 q4 q5 i6]
  refine own_step (f' := (mkF m 1 #[.val (.long q1), .second, .val (.long q2), .second, .val (.long q3), .second, .val (.long q4), .second, .val (.long q5), .second, .val (.int i6), .unset, .unset, .unset, .unset, .unset, .unset, .unset, .unset, .unset, .unset, .unset, .unset, .unset, .unset, .unset, .unset] [(.long (1 : Int64))])) (fun _ k => XS.lconst X0.here hx rfl (hb hby at_0) k) ?_
  refine own_step (f' := (mkF m 2 #[.val (.long q1), .second, .val (.long q2), .second, .val (.long q3), .second, .val (.long q4), .second, .val (.long q5), .second, .val (.int i6), .unset, .unset, .unset, .unset, .unset, .unset, .unset, .unset, .unset, .unset, .unset, .unset, .unset, .unset, .unset, .unset] [(.long q1), (.long (1 : Int64))])) (fun _ k => XS.lloadN X0.here hx rfl (hb hby at_1) rfl k) ?_
  refine own_step (f' := (mkF m 5 #[.val (.long q1), .second, .val (.long q2), .second, .val (.long q3), .second, .val (.long q4), .second, .val (.long q5), .second, .val (.int i6), .unset, .unset, .unset, .unset, .unset, .unset, .unset, .unset, .unset, .unset, .unset, .unset, .unset, .unset, .unset, .unset] [(.long (2147483647 : Int64)), (.long q1), (.long (1 : Int64))])) (fun _ k => X0.ldc2Long hx hown (mvT hZ (hw _ (List.mem_of_getElem? (i := 0) rfl))) (g := (mkF m 2 #[.val (.long q1), .second, .val (.long q2), .second, .val (.long q3), .second, .val (.long q4), .second, .val (.long q5), .second, .val (.int i6), .unset, .unset, .unset, .unset, .unset, .unset, .unset, .unset, .unset, .unset, .unset, .unset, .unset, .unset, .unset, .unset] [(.long q1), (.long (1 : Int64))])) rfl (hb hby at_2) _ k) ?_
  refine own_step (f' := (mkF m 6 #[.val (.long q1), .second, .val (.long q2), .second, .val (.long q3), .second, .val (.long q4), .second, .val (.long q5), .second, .val (.int i6), .unset, .unset, .unset, .unset, .unset, .unset, .unset, .unset, .unset, .unset, .unset, .unset, .unset, .unset, .unset, .unset] [(.long (q1 &&& (2147483647 : Int64))), (.long (1 : Int64))])) (fun _ k => XS.land X0.here hx rfl (hb hby at_5) rfl k) ?_
  refine own_step (f' := (mkF m 9 #[.val (.long q1), .second, .val (.long q2), .second, .val (.long q3), .second, .val (.long q4), .second, .val (.long q5), .second, .val (.int i6), .unset, .unset, .unset, .unset, .unset, .unset, .unset, .unset, .unset, .unset, .unset, .unset, .unset, .unset, .unset, .unset] [(.long (100 : Int64)), (.long (q1 &&& (2147483647 : Int64))), (.long (1 : Int64))])) (fun _ k => X0.ldc2Long hx hown (mvT hZ (hw _ (List.mem_of_getElem? (i := 1) rfl))) (g := (mkF m 6 #[.val (.long q1), .second, .val (.long q2), .second, .val (.long q3), .second, .val (.long q4), .second, .val (.long q5), .second, .val (.int i6), .unset, .unset, .unset, .unset, .unset, .unset, .unset, .unset, .unset, .unset, .unset, .unset, .unset, .unset, .unset, .unset] [(.long (q1 &&& (2147483647 : Int64))), (.long (1 : Int64))])) rfl (hb hby at_6) _ k) ?_
  refine own_step (f' := (mkF m 10 #[.val (.long q1), .second, .val (.long q2), .second, .val (.long q3), .second, .val (.long q4), .second, .val (.long q5), .second, .val (.int i6), .unset, .unset, .unset, .unset, .unset, .unset, .unset, .unset, .unset, .unset, .unset, .unset, .unset, .unset, .unset, .unset] [(.long ((q1 &&& (2147483647 : Int64)) % (100 : Int64))), (.long (1 : Int64))])) (fun _ k => XS.lrem X0.here hx rfl (hb hby at_9) rfl (by decide) (by rw [lrem_mod]; exact k)) ?_
  refine own_step (f' := (mkF m 11 #[.val (.long q1), .second, .val (.long q2), .second, .val (.long q3), .second, .val (.long q4), .second, .val (.long q5), .second, .val (.int i6), .unset, .unset, .unset, .unset, .unset, .unset, .unset, .unset, .unset, .unset, .unset, .unset, .unset, .unset, .unset, .unset] [(.long ((1 : Int64) + ((q1 &&& (2147483647 : Int64)) % (100 : Int64))))])) (fun _ k => XS.ladd X0.here hx rfl (hb hby at_10) rfl k) ?_
  refine own_step (f' := (mkF m 13 #[.val (.long q1), .second, .val (.long q2), .second, .val (.long q3), .second, .val (.long q4), .second, .val (.long q5), .second, .val (.int i6), .val (.long ((1 : Int64) + ((q1 &&& (2147483647 : Int64)) % (100 : Int64)))), .second, .unset, .unset, .unset, .unset, .unset, .unset, .unset, .unset, .unset, .unset, .unset, .unset, .unset, .unset] [])) (fun _ k => XS.lstore X0.here hx rfl (hb hby at_11) rfl (l' := #[.val (.long q1), .second, .val (.long q2), .second, .val (.long q3), .second, .val (.long q4), .second, .val (.long q5), .second, .val (.int i6), .val (.long ((1 : Int64) + ((q1 &&& (2147483647 : Int64)) % (100 : Int64)))), .second, .unset, .unset, .unset, .unset, .unset, .unset, .unset, .unset, .unset, .unset, .unset, .unset, .unset, .unset]) rfl k) ?_
  refine own_step (f' := (mkF m 15 #[.val (.long q1), .second, .val (.long q2), .second, .val (.long q3), .second, .val (.long q4), .second, .val (.long q5), .second, .val (.int i6), .val (.long ((1 : Int64) + ((q1 &&& (2147483647 : Int64)) % (100 : Int64)))), .second, .unset, .unset, .unset, .unset, .unset, .unset, .unset, .unset, .unset, .unset, .unset, .unset, .unset, .unset] [(.int i6)])) (fun _ k => XS.iload X0.here hx rfl (hb hby at_13) rfl k) ?_
  refine own_step (f' := (mkF m 16 #[.val (.long q1), .second, .val (.long q2), .second, .val (.long q3), .second, .val (.long q4), .second, .val (.long q5), .second, .val (.int i6), .val (.long ((1 : Int64) + ((q1 &&& (2147483647 : Int64)) % (100 : Int64)))), .second, .unset, .unset, .unset, .unset, .unset, .unset, .unset, .unset, .unset, .unset, .unset, .unset, .unset, .unset] [(.int (1 : Int32)), (.int i6)])) (fun _ k => XS.iconst X0.here hx rfl (hb hby at_15) k) ?_
  refine own_step (f' := (mkF m 17 #[.val (.long q1), .second, .val (.long q2), .second, .val (.long q3), .second, .val (.long q4), .second, .val (.long q5), .second, .val (.int i6), .val (.long ((1 : Int64) + ((q1 &&& (2147483647 : Int64)) % (100 : Int64)))), .second, .unset, .unset, .unset, .unset, .unset, .unset, .unset, .unset, .unset, .unset, .unset, .unset, .unset, .unset] [(.int (i6 &&& (1 : Int32)))])) (fun _ k => XS.iand X0.here hx rfl (hb hby at_16) rfl k) ?_
  have J17_2 : ∀ (T17_2 : State) (v17_2_s0 : Int64), Stand p l e room_1 s m #[(.long q1), (.long q2), (.long q3), (.long q4), (.long q5), (.int i6)] below meth c T17_2 [] 0 0 → T17_2.heap = h0 → v17_2_s0 = (if (i6 &&& (1 : Int32)) = (0 : Int32) then ((1 : Int64) + ((((q1.toUInt64 >>> ((32 : Int32) &&& 0x3f).toInt64.toUInt64).toInt64) &&& (2147483647 : Int64)) % (100 : Int64))) else ((1 : Int64) + ((q1 &&& (2147483647 : Int64)) % (100 : Int64)))) → own_Goes p e below s (Q0 Z q1 q2 q3 q4 q5 i6 w1 cl h0 n0) room_1.cells room_1.slots T17_2 (mkF m 39 #[.val (.long q1), .second, .val (.long q2), .second, .val (.long q3), .second, .val (.long q4), .second, .val (.long q5), .second, .val (.int i6), .val (.long ((1 : Int64) + ((q1 &&& (2147483647 : Int64)) % (100 : Int64)))), .second, .unset, .unset, .unset, .unset, .unset, .unset, .unset, .unset, .unset, .unset, .unset, .unset, .unset, .unset] [(.long v17_2_s0)]) := by
    intro T17_2 v17_2_s0 X17_2 e17_2 hv17_2_0
    have ha2 := own_a2 _ _ _ hv17_2_0
    refine own_step (f' := (mkF m 41 #[.val (.long q1), .second, .val (.long q2), .second, .val (.long q3), .second, .val (.long q4), .second, .val (.long q5), .second, .val (.int i6), .val (.long ((1 : Int64) + ((q1 &&& (2147483647 : Int64)) % (100 : Int64)))), .second, .val (.long v17_2_s0), .second, .unset, .unset, .unset, .unset, .unset, .unset, .unset, .unset, .unset, .unset, .unset, .unset] [])) (fun _ k => XS.lstore X17_2.here hx rfl (hb hby at_39) rfl (l' := #[.val (.long q1), .second, .val (.long q2), .second, .val (.long q3), .second, .val (.long q4), .second, .val (.long q5), .second, .val (.int i6), .val (.long ((1 : Int64) + ((q1 &&& (2147483647 : Int64)) % (100 : Int64)))), .second, .val (.long v17_2_s0), .second, .unset, .unset, .unset, .unset, .unset, .unset, .unset, .unset, .unset, .unset, .unset, .unset]) rfl k) ?_
    refine own_step (f' := (mkF m 42 #[.val (.long q1), .second, .val (.long q2), .second, .val (.long q3), .second, .val (.long q4), .second, .val (.long q5), .second, .val (.int i6), .val (.long ((1 : Int64) + ((q1 &&& (2147483647 : Int64)) % (100 : Int64)))), .second, .val (.long v17_2_s0), .second, .unset, .unset, .unset, .unset, .unset, .unset, .unset, .unset, .unset, .unset, .unset, .unset] [(.long q2)])) (fun _ k => XS.lloadN X17_2.here hx rfl (hb hby at_41) rfl k) ?_
    have Zq3 : n0 ≤ h0.size := Z0
    obtain ⟨_, _, ⟨T3, L3, k3, n3⟩, -, X3, ⟨Lc3, hQ3, l3, y3, z3⟩, st3⟩ := Jvm.LawKit.callS X17_2 hx (y := (⟨"com/example/kookaburra/kookaburra/core/RetryPolicyEqualsPinLaw", "initial", "(J)J"⟩ : MethodName)) hown (mvT hZ (hw _ (List.mem_of_getElem? (i := 2) rfl))) (mvT hZ (hw _ (List.mem_of_getElem? (i := 3) rfl))) (mvT hZ (hw _ (List.mem_of_getElem? (i := 4) rfl))) (mvT hZ (hw _ (List.mem_of_getElem? (i := 5) rfl))) (by decide) (backOf (W := 0) (rm1 l Z a0 hw [] q2 h0 n0 Zq3 ) hZ (hw _ (List.mem_of_getElem? (i := 5) rfl)) (hw _ (List.mem_of_getElem? (i := 4) rfl)) (by decide) (by decide)) (g := (mkF m 42 #[.val (.long q1), .second, .val (.long q2), .second, .val (.long q3), .second, .val (.long q4), .second, .val (.long q5), .second, .val (.int i6), .val (.long ((1 : Int64) + ((q1 &&& (2147483647 : Int64)) % (100 : Int64)))), .second, .val (.long v17_2_s0), .second, .unset, .unset, .unset, .unset, .unset, .unset, .unset, .unset, .unset, .unset, .unset, .unset] [(.long q2)])) rfl (by rw [hml]; rfl) (argsL := [(.long q2)]) (rest := []) (lenOf pd_2 rfl) rfl (by show 2 * 0 + _ ≤ _; exact Nat.le_of_eq rfl) (hb hby at_42) (fun _ _ => ⟨rfl, e17_2, (by decide : 0 + 0 ≤ _), (by decide : 0 + 0 ≤ _)⟩)
    dsimp only [Pt.U, Pt.locs, Pt.cells, Pt.slots] at X3 l3 y3 z3 st3 hQ3
    subst l3 y3 z3
    obtain ⟨rfl, rfl, e3⟩ := hQ3
    try rw [List.append_nil] at X3
    refine own_step (f' := (mkF m 45 #[.val (.long q1), .second, .val (.long q2), .second, .val (.long q3), .second, .val (.long q4), .second, .val (.long q5), .second, .val (.int i6), .val (.long ((1 : Int64) + ((q1 &&& (2147483647 : Int64)) % (100 : Int64)))), .second, .val (.long v17_2_s0), .second, .unset, .unset, .unset, .unset, .unset, .unset, .unset, .unset, .unset, .unset, .unset, .unset] [(.long (own_ini q2))])) st3 ?_
    refine own_step (f' := (mkF m 47 #[.val (.long q1), .second, .val (.long q2), .second, .val (.long q3), .second, .val (.long q4), .second, .val (.long q5), .second, .val (.int i6), .val (.long ((1 : Int64) + ((q1 &&& (2147483647 : Int64)) % (100 : Int64)))), .second, .val (.long v17_2_s0), .second, .val (.long (own_ini q2)), .second, .unset, .unset, .unset, .unset, .unset, .unset, .unset, .unset, .unset, .unset] [])) (fun _ k => XS.lstore X3.here hx rfl (hb hby at_45) rfl (l' := #[.val (.long q1), .second, .val (.long q2), .second, .val (.long q3), .second, .val (.long q4), .second, .val (.long q5), .second, .val (.int i6), .val (.long ((1 : Int64) + ((q1 &&& (2147483647 : Int64)) % (100 : Int64)))), .second, .val (.long v17_2_s0), .second, .val (.long (own_ini q2)), .second, .unset, .unset, .unset, .unset, .unset, .unset, .unset, .unset, .unset, .unset]) rfl k) ?_
    refine own_step (f' := (mkF m 49 #[.val (.long q1), .second, .val (.long q2), .second, .val (.long q3), .second, .val (.long q4), .second, .val (.long q5), .second, .val (.int i6), .val (.long ((1 : Int64) + ((q1 &&& (2147483647 : Int64)) % (100 : Int64)))), .second, .val (.long v17_2_s0), .second, .val (.long (own_ini q2)), .second, .unset, .unset, .unset, .unset, .unset, .unset, .unset, .unset, .unset, .unset] [(.int i6)])) (fun _ k => XS.iload X3.here hx rfl (hb hby at_47) rfl k) ?_
    refine own_step (f' := (mkF m 50 #[.val (.long q1), .second, .val (.long q2), .second, .val (.long q3), .second, .val (.long q4), .second, .val (.long q5), .second, .val (.int i6), .val (.long ((1 : Int64) + ((q1 &&& (2147483647 : Int64)) % (100 : Int64)))), .second, .val (.long v17_2_s0), .second, .val (.long (own_ini q2)), .second, .unset, .unset, .unset, .unset, .unset, .unset, .unset, .unset, .unset, .unset] [(.int (2 : Int32)), (.int i6)])) (fun _ k => XS.iconst X3.here hx rfl (hb hby at_49) k) ?_
    refine own_step (f' := (mkF m 51 #[.val (.long q1), .second, .val (.long q2), .second, .val (.long q3), .second, .val (.long q4), .second, .val (.long q5), .second, .val (.int i6), .val (.long ((1 : Int64) + ((q1 &&& (2147483647 : Int64)) % (100 : Int64)))), .second, .val (.long v17_2_s0), .second, .val (.long (own_ini q2)), .second, .unset, .unset, .unset, .unset, .unset, .unset, .unset, .unset, .unset, .unset] [(.int (i6 &&& (2 : Int32)))])) (fun _ k => XS.iand X3.here hx rfl (hb hby at_50) rfl k) ?_
    have J51_6 : ∀ (T51_6 : State) (v51_6_s0 : Int64), Stand p l e room_1 s m #[(.long q1), (.long q2), (.long q3), (.long q4), (.long q5), (.int i6)] below meth c T51_6 [] 0 0 → T51_6.heap = h0 → v51_6_s0 = (if (i6 &&& (2 : Int32)) = (0 : Int32) then (own_ini q4) else (own_ini q2)) → own_Goes p e below s (Q0 Z q1 q2 q3 q4 q5 i6 w1 cl h0 n0) room_1.cells room_1.slots T51_6 (mkF m 64 #[.val (.long q1), .second, .val (.long q2), .second, .val (.long q3), .second, .val (.long q4), .second, .val (.long q5), .second, .val (.int i6), .val (.long ((1 : Int64) + ((q1 &&& (2147483647 : Int64)) % (100 : Int64)))), .second, .val (.long v17_2_s0), .second, .val (.long (own_ini q2)), .second, .unset, .unset, .unset, .unset, .unset, .unset, .unset, .unset, .unset, .unset] [(.long v51_6_s0)]) := by
      intro T51_6 v51_6_s0 X51_6 e51_6 hv51_6_0
      have hi2 := own_i2 _ _ _ _ hv51_6_0
      refine own_step (f' := (mkF m 66 #[.val (.long q1), .second, .val (.long q2), .second, .val (.long q3), .second, .val (.long q4), .second, .val (.long q5), .second, .val (.int i6), .val (.long ((1 : Int64) + ((q1 &&& (2147483647 : Int64)) % (100 : Int64)))), .second, .val (.long v17_2_s0), .second, .val (.long (own_ini q2)), .second, .val (.long v51_6_s0), .second, .unset, .unset, .unset, .unset, .unset, .unset, .unset, .unset] [])) (fun _ k => XS.lstore X51_6.here hx rfl (hb hby at_64) rfl (l' := #[.val (.long q1), .second, .val (.long q2), .second, .val (.long q3), .second, .val (.long q4), .second, .val (.long q5), .second, .val (.int i6), .val (.long ((1 : Int64) + ((q1 &&& (2147483647 : Int64)) % (100 : Int64)))), .second, .val (.long v17_2_s0), .second, .val (.long (own_ini q2)), .second, .val (.long v51_6_s0), .second, .unset, .unset, .unset, .unset, .unset, .unset, .unset, .unset]) rfl k) ?_
      refine own_step (f' := (mkF m 68 #[.val (.long q1), .second, .val (.long q2), .second, .val (.long q3), .second, .val (.long q4), .second, .val (.long q5), .second, .val (.int i6), .val (.long ((1 : Int64) + ((q1 &&& (2147483647 : Int64)) % (100 : Int64)))), .second, .val (.long v17_2_s0), .second, .val (.long (own_ini q2)), .second, .val (.long v51_6_s0), .second, .unset, .unset, .unset, .unset, .unset, .unset, .unset, .unset] [(.long (own_ini q2))])) (fun _ k => XS.lload X51_6.here hx rfl (hb hby at_66) rfl k) ?_
      refine own_step (f' := (mkF m 70 #[.val (.long q1), .second, .val (.long q2), .second, .val (.long q3), .second, .val (.long q4), .second, .val (.long q5), .second, .val (.int i6), .val (.long ((1 : Int64) + ((q1 &&& (2147483647 : Int64)) % (100 : Int64)))), .second, .val (.long v17_2_s0), .second, .val (.long (own_ini q2)), .second, .val (.long v51_6_s0), .second, .unset, .unset, .unset, .unset, .unset, .unset, .unset, .unset] [(.long q3), (.long (own_ini q2))])) (fun _ k => XS.lload X51_6.here hx rfl (hb hby at_68) rfl k) ?_
      have hp7_hq : 100 ≤ (own_ini q2).toInt ∧ (own_ini q2).toInt ≤ 3155760000000 := own_iniB _
      have Zq7 : n0 ≤ h0.size := Z0
      obtain ⟨_, _, ⟨T7, L7, k7, n7⟩, -, X7, ⟨Lc7, hQ7, l7, y7, z7⟩, st7⟩ := Jvm.LawKit.callS X51_6 hx (y := (⟨"com/example/kookaburra/kookaburra/core/RetryPolicyEqualsPinLaw", "most", "(JJ)J"⟩ : MethodName)) hown (mvT hZ (hw _ (List.mem_of_getElem? (i := 8) rfl))) (mvT hZ (hw _ (List.mem_of_getElem? (i := 9) rfl))) (mvT hZ (hw _ (List.mem_of_getElem? (i := 4) rfl))) (mvT hZ (hw _ (List.mem_of_getElem? (i := 10) rfl))) (by decide) (backOf (W := 0) (rm2 l Z a0 hw [] (own_ini q2) q3 h0 n0 Zq7 hp7_hq) hZ (hw _ (List.mem_of_getElem? (i := 10) rfl)) (hw _ (List.mem_of_getElem? (i := 4) rfl)) (by decide) (by decide)) (g := (mkF m 70 #[.val (.long q1), .second, .val (.long q2), .second, .val (.long q3), .second, .val (.long q4), .second, .val (.long q5), .second, .val (.int i6), .val (.long ((1 : Int64) + ((q1 &&& (2147483647 : Int64)) % (100 : Int64)))), .second, .val (.long v17_2_s0), .second, .val (.long (own_ini q2)), .second, .val (.long v51_6_s0), .second, .unset, .unset, .unset, .unset, .unset, .unset, .unset, .unset] [(.long q3), (.long (own_ini q2))])) rfl (by rw [hml]; rfl) (argsL := [(.long (own_ini q2)), (.long q3)]) (rest := []) (lenOf pd_3 rfl) rfl (by show 2 * 0 + _ ≤ _; exact Nat.le_of_eq rfl) (hb hby at_70) (fun _ _ => ⟨rfl, e51_6, (by decide : 0 + 0 ≤ _), (by decide : 0 + 0 ≤ _)⟩)
      dsimp only [Pt.U, Pt.locs, Pt.cells, Pt.slots] at X7 l7 y7 z7 st7 hQ7
      subst l7 y7 z7
      obtain ⟨rfl, rfl, e7⟩ := hQ7
      try rw [List.append_nil] at X7
      refine own_step (f' := (mkF m 73 #[.val (.long q1), .second, .val (.long q2), .second, .val (.long q3), .second, .val (.long q4), .second, .val (.long q5), .second, .val (.int i6), .val (.long ((1 : Int64) + ((q1 &&& (2147483647 : Int64)) % (100 : Int64)))), .second, .val (.long v17_2_s0), .second, .val (.long (own_ini q2)), .second, .val (.long v51_6_s0), .second, .unset, .unset, .unset, .unset, .unset, .unset, .unset, .unset] [(.long (own_most (own_ini q2) q3))])) st7 ?_
      refine own_step (f' := (mkF m 75 #[.val (.long q1), .second, .val (.long q2), .second, .val (.long q3), .second, .val (.long q4), .second, .val (.long q5), .second, .val (.int i6), .val (.long ((1 : Int64) + ((q1 &&& (2147483647 : Int64)) % (100 : Int64)))), .second, .val (.long v17_2_s0), .second, .val (.long (own_ini q2)), .second, .val (.long v51_6_s0), .second, .val (.long (own_most (own_ini q2) q3)), .second, .unset, .unset, .unset, .unset, .unset, .unset] [])) (fun _ k => XS.lstore X7.here hx rfl (hb hby at_73) rfl (l' := #[.val (.long q1), .second, .val (.long q2), .second, .val (.long q3), .second, .val (.long q4), .second, .val (.long q5), .second, .val (.int i6), .val (.long ((1 : Int64) + ((q1 &&& (2147483647 : Int64)) % (100 : Int64)))), .second, .val (.long v17_2_s0), .second, .val (.long (own_ini q2)), .second, .val (.long v51_6_s0), .second, .val (.long (own_most (own_ini q2) q3)), .second, .unset, .unset, .unset, .unset, .unset, .unset]) rfl k) ?_
      refine own_step (f' := (mkF m 77 #[.val (.long q1), .second, .val (.long q2), .second, .val (.long q3), .second, .val (.long q4), .second, .val (.long q5), .second, .val (.int i6), .val (.long ((1 : Int64) + ((q1 &&& (2147483647 : Int64)) % (100 : Int64)))), .second, .val (.long v17_2_s0), .second, .val (.long (own_ini q2)), .second, .val (.long v51_6_s0), .second, .val (.long (own_most (own_ini q2) q3)), .second, .unset, .unset, .unset, .unset, .unset, .unset] [(.int i6)])) (fun _ k => XS.iload X7.here hx rfl (hb hby at_75) rfl k) ?_
      refine own_step (f' := (mkF m 78 #[.val (.long q1), .second, .val (.long q2), .second, .val (.long q3), .second, .val (.long q4), .second, .val (.long q5), .second, .val (.int i6), .val (.long ((1 : Int64) + ((q1 &&& (2147483647 : Int64)) % (100 : Int64)))), .second, .val (.long v17_2_s0), .second, .val (.long (own_ini q2)), .second, .val (.long v51_6_s0), .second, .val (.long (own_most (own_ini q2) q3)), .second, .unset, .unset, .unset, .unset, .unset, .unset] [(.int (4 : Int32)), (.int i6)])) (fun _ k => XS.iconst X7.here hx rfl (hb hby at_77) k) ?_
      refine own_step (f' := (mkF m 79 #[.val (.long q1), .second, .val (.long q2), .second, .val (.long q3), .second, .val (.long q4), .second, .val (.long q5), .second, .val (.int i6), .val (.long ((1 : Int64) + ((q1 &&& (2147483647 : Int64)) % (100 : Int64)))), .second, .val (.long v17_2_s0), .second, .val (.long (own_ini q2)), .second, .val (.long v51_6_s0), .second, .val (.long (own_most (own_ini q2) q3)), .second, .unset, .unset, .unset, .unset, .unset, .unset] [(.int (i6 &&& (4 : Int32)))])) (fun _ k => XS.iand X7.here hx rfl (hb hby at_78) rfl k) ?_
      have J79_12 : ∀ (T79_12 : State) (v79_12_s0 : Int64), Stand p l e room_1 s m #[(.long q1), (.long q2), (.long q3), (.long q4), (.long q5), (.int i6)] below meth c T79_12 [] 0 0 → T79_12.heap = h0 → v79_12_s0 = (if (i6 &&& (4 : Int32)) = (0 : Int32) then (own_most v51_6_s0 q5) else (if (own_most (own_ini q2) q3) < v51_6_s0 then (own_most v51_6_s0 q5) else (own_most (own_ini q2) q3))) → own_Goes p e below s (Q0 Z q1 q2 q3 q4 q5 i6 w1 cl h0 n0) room_1.cells room_1.slots T79_12 (mkF m 102 #[.val (.long q1), .second, .val (.long q2), .second, .val (.long q3), .second, .val (.long q4), .second, .val (.long q5), .second, .val (.int i6), .val (.long ((1 : Int64) + ((q1 &&& (2147483647 : Int64)) % (100 : Int64)))), .second, .val (.long v17_2_s0), .second, .val (.long (own_ini q2)), .second, .val (.long v51_6_s0), .second, .val (.long (own_most (own_ini q2) q3)), .second, .unset, .unset, .unset, .unset, .unset, .unset] [(.long v79_12_s0)]) := by
        intro T79_12 v79_12_s0 X79_12 e79_12 hv79_12_0
        have hm2 := own_m2 _ _ _ _ _ (own_mostB _ _ (own_iniB q2)).2 hi2 hv79_12_0
        have hP1 := own_prem _ _ _ (own_q2 q1) (own_iniB q2) (own_mostB _ q3 (own_iniB q2))
        have hP2 := own_prem _ _ _ ha2 hi2 hm2
        refine own_step (f' := (mkF m 104 #[.val (.long q1), .second, .val (.long q2), .second, .val (.long q3), .second, .val (.long q4), .second, .val (.long q5), .second, .val (.int i6), .val (.long ((1 : Int64) + ((q1 &&& (2147483647 : Int64)) % (100 : Int64)))), .second, .val (.long v17_2_s0), .second, .val (.long (own_ini q2)), .second, .val (.long v51_6_s0), .second, .val (.long (own_most (own_ini q2) q3)), .second, .val (.long v79_12_s0), .second, .unset, .unset, .unset, .unset] [])) (fun _ k => XS.lstore X79_12.here hx rfl (hb hby at_102) rfl (l' := #[.val (.long q1), .second, .val (.long q2), .second, .val (.long q3), .second, .val (.long q4), .second, .val (.long q5), .second, .val (.int i6), .val (.long ((1 : Int64) + ((q1 &&& (2147483647 : Int64)) % (100 : Int64)))), .second, .val (.long v17_2_s0), .second, .val (.long (own_ini q2)), .second, .val (.long v51_6_s0), .second, .val (.long (own_most (own_ini q2) q3)), .second, .val (.long v79_12_s0), .second, .unset, .unset, .unset, .unset]) rfl k) ?_
        obtain ⟨T13, h13, X13, e13, E13, A13, D13, -, st13⟩ := newO X79_12 hx hZ hown (hw _ (List.mem_of_getElem? (i := 12) rfl)) (hw _ (List.mem_of_getElem? (i := 13) rfl)) (hw _ (List.mem_of_getElem? (i := 14) rfl)) e79_12 (g := (mkF m 104 #[.val (.long q1), .second, .val (.long q2), .second, .val (.long q3), .second, .val (.long q4), .second, .val (.long q5), .second, .val (.int i6), .val (.long ((1 : Int64) + ((q1 &&& (2147483647 : Int64)) % (100 : Int64)))), .second, .val (.long v17_2_s0), .second, .val (.long (own_ini q2)), .second, .val (.long v51_6_s0), .second, .val (.long (own_most (own_ini q2) q3)), .second, .val (.long v79_12_s0), .second, .unset, .unset, .unset, .unset] [])) rfl (hb hby at_104) (by decide) (by decide)
        obtain ⟨b13, g13⟩ : ∃ z, z = h0.size := ⟨_, rfl⟩
        rw [← g13] at A13 D13 st13
        have g_b13 : n0 ≤ b13 := Nat.le_trans Z0 (Nat.le_of_eq g13.symm)
        have F_maxAttempts_b13 : Fld Z h13 b13 "com/example/kookaburra/kookaburra/core/RetryPolicy" "maxAttempts" "I" (.int (0 : Int32)) := D13 (Or.inr (hw _ (List.mem_of_getElem? (i := 24) rfl))) (ty := .int) (by decide)
        have F_initialBackoffMillis_b13 : Fld Z h13 b13 "com/example/kookaburra/kookaburra/core/RetryPolicy" "initialBackoffMillis" "J" (.long (0 : Int64)) := D13 (Or.inr (hw _ (List.mem_of_getElem? (i := 26) rfl))) (ty := .long) (by decide)
        have F_maxBackoffMillis_b13 : Fld Z h13 b13 "com/example/kookaburra/kookaburra/core/RetryPolicy" "maxBackoffMillis" "J" (.long (0 : Int64)) := D13 (Or.inr (hw _ (List.mem_of_getElem? (i := 28) rfl))) (ty := .long) (by decide)
        refine own_step (f' := (mkF m 107 #[.val (.long q1), .second, .val (.long q2), .second, .val (.long q3), .second, .val (.long q4), .second, .val (.long q5), .second, .val (.int i6), .val (.long ((1 : Int64) + ((q1 &&& (2147483647 : Int64)) % (100 : Int64)))), .second, .val (.long v17_2_s0), .second, .val (.long (own_ini q2)), .second, .val (.long v51_6_s0), .second, .val (.long (own_most (own_ini q2) q3)), .second, .val (.long v79_12_s0), .second, .unset, .unset, .unset, .unset] [(.ref b13)])) st13 ?_
        refine own_step (f' := (mkF m 108 #[.val (.long q1), .second, .val (.long q2), .second, .val (.long q3), .second, .val (.long q4), .second, .val (.long q5), .second, .val (.int i6), .val (.long ((1 : Int64) + ((q1 &&& (2147483647 : Int64)) % (100 : Int64)))), .second, .val (.long v17_2_s0), .second, .val (.long (own_ini q2)), .second, .val (.long v51_6_s0), .second, .val (.long (own_most (own_ini q2) q3)), .second, .val (.long v79_12_s0), .second, .unset, .unset, .unset, .unset] [(.ref b13), (.ref b13)])) (fun _ k => XS.dup X13.here hx rfl (hb hby at_107) rfl rfl k) ?_
        refine own_step (f' := (mkF m 110 #[.val (.long q1), .second, .val (.long q2), .second, .val (.long q3), .second, .val (.long q4), .second, .val (.long q5), .second, .val (.int i6), .val (.long ((1 : Int64) + ((q1 &&& (2147483647 : Int64)) % (100 : Int64)))), .second, .val (.long v17_2_s0), .second, .val (.long (own_ini q2)), .second, .val (.long v51_6_s0), .second, .val (.long (own_most (own_ini q2) q3)), .second, .val (.long v79_12_s0), .second, .unset, .unset, .unset, .unset] [(.long ((1 : Int64) + ((q1 &&& (2147483647 : Int64)) % (100 : Int64)))), (.ref b13), (.ref b13)])) (fun _ k => XS.lload X13.here hx rfl (hb hby at_108) rfl k) ?_
        refine own_step (f' := (mkF m 112 #[.val (.long q1), .second, .val (.long q2), .second, .val (.long q3), .second, .val (.long q4), .second, .val (.long q5), .second, .val (.int i6), .val (.long ((1 : Int64) + ((q1 &&& (2147483647 : Int64)) % (100 : Int64)))), .second, .val (.long v17_2_s0), .second, .val (.long (own_ini q2)), .second, .val (.long v51_6_s0), .second, .val (.long (own_most (own_ini q2) q3)), .second, .val (.long v79_12_s0), .second, .unset, .unset, .unset, .unset] [(.long (own_ini q2)), (.long ((1 : Int64) + ((q1 &&& (2147483647 : Int64)) % (100 : Int64)))), (.ref b13), (.ref b13)])) (fun _ k => XS.lload X13.here hx rfl (hb hby at_110) rfl k) ?_
        refine own_step (f' := (mkF m 114 #[.val (.long q1), .second, .val (.long q2), .second, .val (.long q3), .second, .val (.long q4), .second, .val (.long q5), .second, .val (.int i6), .val (.long ((1 : Int64) + ((q1 &&& (2147483647 : Int64)) % (100 : Int64)))), .second, .val (.long v17_2_s0), .second, .val (.long (own_ini q2)), .second, .val (.long v51_6_s0), .second, .val (.long (own_most (own_ini q2) q3)), .second, .val (.long v79_12_s0), .second, .unset, .unset, .unset, .unset] [(.long (own_most (own_ini q2) q3)), (.long (own_ini q2)), (.long ((1 : Int64) + ((q1 &&& (2147483647 : Int64)) % (100 : Int64)))), (.ref b13), (.ref b13)])) (fun _ k => XS.lload X13.here hx rfl (hb hby at_112) rfl k) ?_
        have hp14_hp1 : ¬ (((1 : Int64) + ((q1 &&& (2147483647 : Int64)) % (100 : Int64))) < (1 : Int64)) := hP1.1
        have hp14_hp2 : ¬ ((100 : Int64) < ((1 : Int64) + ((q1 &&& (2147483647 : Int64)) % (100 : Int64)))) := hP1.2.1
        have hp14_hp3 : ¬ ((own_ini q2) < (100 : Int64)) := hP1.2.2.1
        have hp14_hp4 : ¬ ((3155760000000 : Int64) < (own_ini q2)) := hP1.2.2.2.1
        have hp14_hp5 : ¬ ((own_most (own_ini q2) q3) < (own_ini q2)) := hP1.2.2.2.2.1
        have hp14_hp6 : ¬ ((3155760000000 : Int64) < (own_most (own_ini q2) q3)) := hP1.2.2.2.2.2
        have Zq14 : n0 ≤ h13.size := (Nat.le_trans Z0 E13.1)
        obtain ⟨_, _, ⟨T14, L14, k14, n14⟩, -, X14, ⟨Lc14, hQ14, l14, y14, z14⟩, st14⟩ := X13.specialBack hx (y := (⟨"com/example/kookaburra/kookaburra/core/RetryPolicy", "<init>", "(JJJ)V"⟩ : MethodName)) rfl hown (mvT hZ (hw _ (List.mem_of_getElem? (i := 15) rfl))) (mvT hZ (hw _ (List.mem_of_getElem? (i := 16) rfl))) (mvT hZ (hw _ (List.mem_of_getElem? (i := 17) rfl))) (by decide) (backOf (W := 1) (rm3 l Z a0 hw [] b13 ((1 : Int64) + ((q1 &&& (2147483647 : Int64)) % (100 : Int64))) (own_ini q2) (own_most (own_ini q2) q3) (.int (0 : Int32)) (.long (0 : Int64)) (.long (0 : Int64)) h13 n0 Zq14 A13 F_maxAttempts_b13 F_initialBackoffMillis_b13 F_maxBackoffMillis_b13 g_b13 hp14_hp1 hp14_hp2 hp14_hp3 hp14_hp4 hp14_hp5 hp14_hp6) hZ (hw _ (List.mem_of_getElem? (i := 17) rfl)) (hw _ (List.mem_of_getElem? (i := 14) rfl)) (by decide) (by decide)) (g := (mkF m 114 #[.val (.long q1), .second, .val (.long q2), .second, .val (.long q3), .second, .val (.long q4), .second, .val (.long q5), .second, .val (.int i6), .val (.long ((1 : Int64) + ((q1 &&& (2147483647 : Int64)) % (100 : Int64)))), .second, .val (.long v17_2_s0), .second, .val (.long (own_ini q2)), .second, .val (.long v51_6_s0), .second, .val (.long (own_most (own_ini q2) q3)), .second, .val (.long v79_12_s0), .second, .unset, .unset, .unset, .unset] [(.long (own_most (own_ini q2) q3)), (.long (own_ini q2)), (.long ((1 : Int64) + ((q1 &&& (2147483647 : Int64)) % (100 : Int64)))), (.ref b13), (.ref b13)])) rfl (by rw [hml]; rfl) (Steps.refl _) (a := b13) (argsL := [(.long ((1 : Int64) + ((q1 &&& (2147483647 : Int64)) % (100 : Int64)))), (.long (own_ini q2)), (.long (own_most (own_ini q2) q3))]) (rest := [(.ref b13)]) (lenOf pd_4 rfl) rfl (by show 2 * 0 + _ ≤ _; exact Nat.le_of_eq rfl) (hb hby at_114) (fun _ _ => ⟨rfl, e13, (by decide : 1 + 0 ≤ _), (by decide : 3 + 0 ≤ _)⟩)
        dsimp only [Pt.U, Pt.locs, Pt.cells, Pt.slots] at X14 l14 y14 z14 st14 hQ14
        subst l14 y14 z14
        obtain ⟨rfl, Nq14, K14, P14_0, P14_1, P14_2, P14_3⟩ := hQ14
        obtain ⟨Lo14, X14, N14⟩ : ∃ K, Stand p l e room_1 s m #[(.long q1), (.long q2), (.long q3), (.long q4), (.long q5), (.int i6)] below meth c T14 K 1 3 ∧ Fr n0 K := ⟨_, X14, (Fr.app N0 Nq14)⟩
        refine own_jump (f' := (mkF m 117 #[.val (.long q1), .second, .val (.long q2), .second, .val (.long q3), .second, .val (.long q4), .second, .val (.long q5), .second, .val (.int i6), .val (.long ((1 : Int64) + ((q1 &&& (2147483647 : Int64)) % (100 : Int64)))), .second, .val (.long v17_2_s0), .second, .val (.long (own_ini q2)), .second, .val (.long v51_6_s0), .second, .val (.long (own_most (own_ini q2) q3)), .second, .val (.long v79_12_s0), .second, .unset, .unset, .unset, .unset] [(.ref b13)])) st14 ?_
        refine own_step (f' := (mkF m 119 #[.val (.long q1), .second, .val (.long q2), .second, .val (.long q3), .second, .val (.long q4), .second, .val (.long q5), .second, .val (.int i6), .val (.long ((1 : Int64) + ((q1 &&& (2147483647 : Int64)) % (100 : Int64)))), .second, .val (.long v17_2_s0), .second, .val (.long (own_ini q2)), .second, .val (.long v51_6_s0), .second, .val (.long (own_most (own_ini q2) q3)), .second, .val (.long v79_12_s0), .second, .val (.ref b13), .unset, .unset, .unset] [])) (fun _ k => XS.astore X14.here hx rfl (hb hby at_117) rfl rfl (l' := #[.val (.long q1), .second, .val (.long q2), .second, .val (.long q3), .second, .val (.long q4), .second, .val (.long q5), .second, .val (.int i6), .val (.long ((1 : Int64) + ((q1 &&& (2147483647 : Int64)) % (100 : Int64)))), .second, .val (.long v17_2_s0), .second, .val (.long (own_ini q2)), .second, .val (.long v51_6_s0), .second, .val (.long (own_most (own_ini q2) q3)), .second, .val (.long v79_12_s0), .second, .val (.ref b13), .unset, .unset, .unset]) rfl k) ?_
        obtain ⟨T15, h15, X15, e15, E15, A15, D15, -, st15⟩ := newO X14 hx hZ hown (hw _ (List.mem_of_getElem? (i := 12) rfl)) (hw _ (List.mem_of_getElem? (i := 13) rfl)) (hw _ (List.mem_of_getElem? (i := 14) rfl)) rfl (g := (mkF m 119 #[.val (.long q1), .second, .val (.long q2), .second, .val (.long q3), .second, .val (.long q4), .second, .val (.long q5), .second, .val (.int i6), .val (.long ((1 : Int64) + ((q1 &&& (2147483647 : Int64)) % (100 : Int64)))), .second, .val (.long v17_2_s0), .second, .val (.long (own_ini q2)), .second, .val (.long v51_6_s0), .second, .val (.long (own_most (own_ini q2) q3)), .second, .val (.long v79_12_s0), .second, .val (.ref b13), .unset, .unset, .unset] [])) rfl (hb hby at_119) (by decide) (by decide)
        obtain ⟨b15, g15⟩ : ∃ z, z = T14.heap.size := ⟨_, rfl⟩
        rw [← g15] at A15 D15 st15
        have ne_b13_b15 : b13 ≠ b15 := Nat.ne_of_lt (Nat.lt_of_lt_of_le P14_0.lt (Nat.le_of_eq g15.symm))
        have g_b15 : n0 ≤ b15 := Nat.le_trans (Nat.le_trans (Nat.le_trans Z0 E13.1) K14.1) (Nat.le_of_eq g15.symm)
        have F_maxAttempts_b15 : Fld Z h15 b15 "com/example/kookaburra/kookaburra/core/RetryPolicy" "maxAttempts" "I" (.int (0 : Int32)) := D15 (Or.inr (hw _ (List.mem_of_getElem? (i := 24) rfl))) (ty := .int) (by decide)
        have F_initialBackoffMillis_b15 : Fld Z h15 b15 "com/example/kookaburra/kookaburra/core/RetryPolicy" "initialBackoffMillis" "J" (.long (0 : Int64)) := D15 (Or.inr (hw _ (List.mem_of_getElem? (i := 26) rfl))) (ty := .long) (by decide)
        have F_maxBackoffMillis_b15 : Fld Z h15 b15 "com/example/kookaburra/kookaburra/core/RetryPolicy" "maxBackoffMillis" "J" (.long (0 : Int64)) := D15 (Or.inr (hw _ (List.mem_of_getElem? (i := 28) rfl))) (ty := .long) (by decide)
        refine own_step (f' := (mkF m 122 #[.val (.long q1), .second, .val (.long q2), .second, .val (.long q3), .second, .val (.long q4), .second, .val (.long q5), .second, .val (.int i6), .val (.long ((1 : Int64) + ((q1 &&& (2147483647 : Int64)) % (100 : Int64)))), .second, .val (.long v17_2_s0), .second, .val (.long (own_ini q2)), .second, .val (.long v51_6_s0), .second, .val (.long (own_most (own_ini q2) q3)), .second, .val (.long v79_12_s0), .second, .val (.ref b13), .unset, .unset, .unset] [(.ref b15)])) st15 ?_
        refine own_step (f' := (mkF m 123 #[.val (.long q1), .second, .val (.long q2), .second, .val (.long q3), .second, .val (.long q4), .second, .val (.long q5), .second, .val (.int i6), .val (.long ((1 : Int64) + ((q1 &&& (2147483647 : Int64)) % (100 : Int64)))), .second, .val (.long v17_2_s0), .second, .val (.long (own_ini q2)), .second, .val (.long v51_6_s0), .second, .val (.long (own_most (own_ini q2) q3)), .second, .val (.long v79_12_s0), .second, .val (.ref b13), .unset, .unset, .unset] [(.ref b15), (.ref b15)])) (fun _ k => XS.dup X15.here hx rfl (hb hby at_122) rfl rfl k) ?_
        refine own_step (f' := (mkF m 125 #[.val (.long q1), .second, .val (.long q2), .second, .val (.long q3), .second, .val (.long q4), .second, .val (.long q5), .second, .val (.int i6), .val (.long ((1 : Int64) + ((q1 &&& (2147483647 : Int64)) % (100 : Int64)))), .second, .val (.long v17_2_s0), .second, .val (.long (own_ini q2)), .second, .val (.long v51_6_s0), .second, .val (.long (own_most (own_ini q2) q3)), .second, .val (.long v79_12_s0), .second, .val (.ref b13), .unset, .unset, .unset] [(.long v17_2_s0), (.ref b15), (.ref b15)])) (fun _ k => XS.lload X15.here hx rfl (hb hby at_123) rfl k) ?_
        refine own_step (f' := (mkF m 127 #[.val (.long q1), .second, .val (.long q2), .second, .val (.long q3), .second, .val (.long q4), .second, .val (.long q5), .second, .val (.int i6), .val (.long ((1 : Int64) + ((q1 &&& (2147483647 : Int64)) % (100 : Int64)))), .second, .val (.long v17_2_s0), .second, .val (.long (own_ini q2)), .second, .val (.long v51_6_s0), .second, .val (.long (own_most (own_ini q2) q3)), .second, .val (.long v79_12_s0), .second, .val (.ref b13), .unset, .unset, .unset] [(.long v51_6_s0), (.long v17_2_s0), (.ref b15), (.ref b15)])) (fun _ k => XS.lload X15.here hx rfl (hb hby at_125) rfl k) ?_
        refine own_step (f' := (mkF m 129 #[.val (.long q1), .second, .val (.long q2), .second, .val (.long q3), .second, .val (.long q4), .second, .val (.long q5), .second, .val (.int i6), .val (.long ((1 : Int64) + ((q1 &&& (2147483647 : Int64)) % (100 : Int64)))), .second, .val (.long v17_2_s0), .second, .val (.long (own_ini q2)), .second, .val (.long v51_6_s0), .second, .val (.long (own_most (own_ini q2) q3)), .second, .val (.long v79_12_s0), .second, .val (.ref b13), .unset, .unset, .unset] [(.long v79_12_s0), (.long v51_6_s0), (.long v17_2_s0), (.ref b15), (.ref b15)])) (fun _ k => XS.lload X15.here hx rfl (hb hby at_127) rfl k) ?_
        have hp16_hp1 : ¬ (v17_2_s0 < (1 : Int64)) := hP2.1
        have hp16_hp2 : ¬ ((100 : Int64) < v17_2_s0) := hP2.2.1
        have hp16_hp3 : ¬ (v51_6_s0 < (100 : Int64)) := hP2.2.2.1
        have hp16_hp4 : ¬ ((3155760000000 : Int64) < v51_6_s0) := hP2.2.2.2.1
        have hp16_hp5 : ¬ (v79_12_s0 < v51_6_s0) := hP2.2.2.2.2.1
        have hp16_hp6 : ¬ ((3155760000000 : Int64) < v79_12_s0) := hP2.2.2.2.2.2
        have Zq16 : n0 ≤ h15.size := (Nat.le_trans (Nat.le_trans (Nat.le_trans Z0 E13.1) K14.1) E15.1)
        obtain ⟨_, _, ⟨T16, L16, k16, n16⟩, -, X16, ⟨Lc16, hQ16, l16, y16, z16⟩, st16⟩ := X15.specialBack hx (y := (⟨"com/example/kookaburra/kookaburra/core/RetryPolicy", "<init>", "(JJJ)V"⟩ : MethodName)) rfl hown (mvT hZ (hw _ (List.mem_of_getElem? (i := 15) rfl))) (mvT hZ (hw _ (List.mem_of_getElem? (i := 16) rfl))) (mvT hZ (hw _ (List.mem_of_getElem? (i := 17) rfl))) (by decide) (backOf (W := 1) (rm3 l Z a0 hw [] b15 v17_2_s0 v51_6_s0 v79_12_s0 (.int (0 : Int32)) (.long (0 : Int64)) (.long (0 : Int64)) h15 n0 Zq16 A15 F_maxAttempts_b15 F_initialBackoffMillis_b15 F_maxBackoffMillis_b15 g_b15 hp16_hp1 hp16_hp2 hp16_hp3 hp16_hp4 hp16_hp5 hp16_hp6) hZ (hw _ (List.mem_of_getElem? (i := 17) rfl)) (hw _ (List.mem_of_getElem? (i := 14) rfl)) (by decide) (by decide)) (g := (mkF m 129 #[.val (.long q1), .second, .val (.long q2), .second, .val (.long q3), .second, .val (.long q4), .second, .val (.long q5), .second, .val (.int i6), .val (.long ((1 : Int64) + ((q1 &&& (2147483647 : Int64)) % (100 : Int64)))), .second, .val (.long v17_2_s0), .second, .val (.long (own_ini q2)), .second, .val (.long v51_6_s0), .second, .val (.long (own_most (own_ini q2) q3)), .second, .val (.long v79_12_s0), .second, .val (.ref b13), .unset, .unset, .unset] [(.long v79_12_s0), (.long v51_6_s0), (.long v17_2_s0), (.ref b15), (.ref b15)])) rfl (by rw [hml]; rfl) (Steps.refl _) (a := b15) (argsL := [(.long v17_2_s0), (.long v51_6_s0), (.long v79_12_s0)]) (rest := [(.ref b15)]) (lenOf pd_4 rfl) rfl (by show 2 * 0 + _ ≤ _; exact Nat.le_of_eq rfl) (hb hby at_129) (fun _ _ => ⟨rfl, e15, (by decide : 2 + 0 ≤ _), (by decide : 6 + 0 ≤ _)⟩)
        dsimp only [Pt.U, Pt.locs, Pt.cells, Pt.slots] at X16 l16 y16 z16 st16 hQ16
        subst l16 y16 z16
        obtain ⟨rfl, Nq16, K16, P16_0, P16_1, P16_2, P16_3⟩ := hQ16
        obtain ⟨Lo16, X16, N16⟩ : ∃ K, Stand p l e room_1 s m #[(.long q1), (.long q2), (.long q3), (.long q4), (.long q5), (.int i6)] below meth c T16 K 2 6 ∧ Fr n0 K := ⟨_, X16, (Fr.app N14 Nq16)⟩
        refine own_jump (f' := (mkF m 132 #[.val (.long q1), .second, .val (.long q2), .second, .val (.long q3), .second, .val (.long q4), .second, .val (.long q5), .second, .val (.int i6), .val (.long ((1 : Int64) + ((q1 &&& (2147483647 : Int64)) % (100 : Int64)))), .second, .val (.long v17_2_s0), .second, .val (.long (own_ini q2)), .second, .val (.long v51_6_s0), .second, .val (.long (own_most (own_ini q2) q3)), .second, .val (.long v79_12_s0), .second, .val (.ref b13), .unset, .unset, .unset] [(.ref b15)])) st16 ?_
        refine own_step (f' := (mkF m 134 #[.val (.long q1), .second, .val (.long q2), .second, .val (.long q3), .second, .val (.long q4), .second, .val (.long q5), .second, .val (.int i6), .val (.long ((1 : Int64) + ((q1 &&& (2147483647 : Int64)) % (100 : Int64)))), .second, .val (.long v17_2_s0), .second, .val (.long (own_ini q2)), .second, .val (.long v51_6_s0), .second, .val (.long (own_most (own_ini q2) q3)), .second, .val (.long v79_12_s0), .second, .val (.ref b13), .val (.ref b15), .unset, .unset] [])) (fun _ k => XS.astore X16.here hx rfl (hb hby at_132) rfl rfl (l' := #[.val (.long q1), .second, .val (.long q2), .second, .val (.long q3), .second, .val (.long q4), .second, .val (.long q5), .second, .val (.int i6), .val (.long ((1 : Int64) + ((q1 &&& (2147483647 : Int64)) % (100 : Int64)))), .second, .val (.long v17_2_s0), .second, .val (.long (own_ini q2)), .second, .val (.long v51_6_s0), .second, .val (.long (own_most (own_ini q2) q3)), .second, .val (.long v79_12_s0), .second, .val (.ref b13), .val (.ref b15), .unset, .unset]) rfl k) ?_
        refine own_step (f' := (mkF m 136 #[.val (.long q1), .second, .val (.long q2), .second, .val (.long q3), .second, .val (.long q4), .second, .val (.long q5), .second, .val (.int i6), .val (.long ((1 : Int64) + ((q1 &&& (2147483647 : Int64)) % (100 : Int64)))), .second, .val (.long v17_2_s0), .second, .val (.long (own_ini q2)), .second, .val (.long v51_6_s0), .second, .val (.long (own_most (own_ini q2) q3)), .second, .val (.long v79_12_s0), .second, .val (.ref b13), .val (.ref b15), .unset, .unset] [(.long ((1 : Int64) + ((q1 &&& (2147483647 : Int64)) % (100 : Int64))))])) (fun _ k => XS.lload X16.here hx rfl (hb hby at_134) rfl k) ?_
        refine own_step (f' := (mkF m 138 #[.val (.long q1), .second, .val (.long q2), .second, .val (.long q3), .second, .val (.long q4), .second, .val (.long q5), .second, .val (.int i6), .val (.long ((1 : Int64) + ((q1 &&& (2147483647 : Int64)) % (100 : Int64)))), .second, .val (.long v17_2_s0), .second, .val (.long (own_ini q2)), .second, .val (.long v51_6_s0), .second, .val (.long (own_most (own_ini q2) q3)), .second, .val (.long v79_12_s0), .second, .val (.ref b13), .val (.ref b15), .unset, .unset] [(.long v17_2_s0), (.long ((1 : Int64) + ((q1 &&& (2147483647 : Int64)) % (100 : Int64))))])) (fun _ k => XS.lload X16.here hx rfl (hb hby at_136) rfl k) ?_
        refine own_step (f' := (mkF m 139 #[.val (.long q1), .second, .val (.long q2), .second, .val (.long q3), .second, .val (.long q4), .second, .val (.long q5), .second, .val (.int i6), .val (.long ((1 : Int64) + ((q1 &&& (2147483647 : Int64)) % (100 : Int64)))), .second, .val (.long v17_2_s0), .second, .val (.long (own_ini q2)), .second, .val (.long v51_6_s0), .second, .val (.long (own_most (own_ini q2) q3)), .second, .val (.long v79_12_s0), .second, .val (.ref b13), .val (.ref b15), .unset, .unset] [(.int (lcmpW ((1 : Int64) + ((q1 &&& (2147483647 : Int64)) % (100 : Int64))) v17_2_s0))])) (fun _ k => XS.lcmp X16.here hx rfl (hb hby at_138) rfl k) ?_
        have J139_20 : ∀ (T139_20 : State) (v139_20_s0 : Int32), Stand p l e room_1 s m #[(.long q1), (.long q2), (.long q3), (.long q4), (.long q5), (.int i6)] below meth c T139_20 Lo16 2 6 → T139_20.heap = T16.heap → v139_20_s0 = (if ((1 : Int64) + ((q1 &&& (2147483647 : Int64)) % (100 : Int64))) = v17_2_s0 then (if (own_ini q2) = v51_6_s0 then (if (own_most (own_ini q2) q3) = v79_12_s0 then (1 : Int32) else (0 : Int32)) else (0 : Int32)) else (0 : Int32)) → own_Goes p e below s (Q0 Z q1 q2 q3 q4 q5 i6 w1 cl h0 n0) room_1.cells room_1.slots T139_20 (mkF m 163 #[.val (.long q1), .second, .val (.long q2), .second, .val (.long q3), .second, .val (.long q4), .second, .val (.long q5), .second, .val (.int i6), .val (.long ((1 : Int64) + ((q1 &&& (2147483647 : Int64)) % (100 : Int64)))), .second, .val (.long v17_2_s0), .second, .val (.long (own_ini q2)), .second, .val (.long v51_6_s0), .second, .val (.long (own_most (own_ini q2) q3)), .second, .val (.long v79_12_s0), .second, .val (.ref b13), .val (.ref b15), .unset, .unset] [(.int v139_20_s0)]) := by
          intro T139_20 v139_20_s0 X139_20 e139_20 hv139_20_0
          have hfin := own_fin _ _ _ _ _ _ _ (own_q2 q1) ha2 hv139_20_0
          refine own_step (f' := (mkF m 165 #[.val (.long q1), .second, .val (.long q2), .second, .val (.long q3), .second, .val (.long q4), .second, .val (.long q5), .second, .val (.int i6), .val (.long ((1 : Int64) + ((q1 &&& (2147483647 : Int64)) % (100 : Int64)))), .second, .val (.long v17_2_s0), .second, .val (.long (own_ini q2)), .second, .val (.long v51_6_s0), .second, .val (.long (own_most (own_ini q2) q3)), .second, .val (.long v79_12_s0), .second, .val (.ref b13), .val (.ref b15), .val (.int v139_20_s0), .unset] [])) (fun _ k => XS.istore X139_20.here hx rfl (hb hby at_163) rfl (l' := #[.val (.long q1), .second, .val (.long q2), .second, .val (.long q3), .second, .val (.long q4), .second, .val (.long q5), .second, .val (.int i6), .val (.long ((1 : Int64) + ((q1 &&& (2147483647 : Int64)) % (100 : Int64)))), .second, .val (.long v17_2_s0), .second, .val (.long (own_ini q2)), .second, .val (.long v51_6_s0), .second, .val (.long (own_most (own_ini q2) q3)), .second, .val (.long v79_12_s0), .second, .val (.ref b13), .val (.ref b15), .val (.int v139_20_s0), .unset]) rfl k) ?_
          refine own_step (f' := (mkF m 167 #[.val (.long q1), .second, .val (.long q2), .second, .val (.long q3), .second, .val (.long q4), .second, .val (.long q5), .second, .val (.int i6), .val (.long ((1 : Int64) + ((q1 &&& (2147483647 : Int64)) % (100 : Int64)))), .second, .val (.long v17_2_s0), .second, .val (.long (own_ini q2)), .second, .val (.long v51_6_s0), .second, .val (.long (own_most (own_ini q2) q3)), .second, .val (.long v79_12_s0), .second, .val (.ref b13), .val (.ref b15), .val (.int v139_20_s0), .unset] [(.long (own_ini q2))])) (fun _ k => XS.lload X139_20.here hx rfl (hb hby at_165) rfl k) ?_
          have hp21_hArr : Arr Z Z.heap w1 cl (.object "java/lang/Long") := hArr
          have hp21_hsz : cl.slots.size = 256 := hsz
          have hp21_hbox : ∀ j : Int32, ¬ (j < 0 ∨ cl.slots.size ≤ j.toNatClampNeg) → ∃ b : Addr, cl.slots[j.toNatClampNeg]? = some (.ref b) ∧ Exa Z Z.heap b "java/lang/Long" := hbox
          have hp21_hq : 100 ≤ (own_ini q2).toInt := (own_iniB q2).1
          have Zq21 : n0 ≤ T16.heap.size := (Nat.le_trans (Nat.le_trans (Nat.le_trans (Nat.le_trans Z0 E13.1) K14.1) E15.1) K16.1)
          obtain ⟨_, _, ⟨T21, L21, k21, n21⟩, -, X21, ⟨Lc21, hQ21, l21, y21, z21⟩, st21⟩ := Jvm.LawKit.callS X139_20 hx (y := (⟨"java/lang/Long", "valueOf", "(J)Ljava/lang/Long;"⟩ : MethodName)) hown (mvT hZ (hw _ (List.mem_of_getElem? (i := 29) rfl))) (mvT hZ (hw _ (List.mem_of_getElem? (i := 30) rfl))) (mvT hZ (hw _ (List.mem_of_getElem? (i := 31) rfl))) (mvT hZ (hw _ (List.mem_of_getElem? (i := 32) rfl))) (by decide) (backOf (W := 0) (rm5 l Z a0 hw [] (own_ini q2) w1 cl T16.heap n0 Zq21 (own_staKeep ((own_staKeep (S_cache.ext E13) K14 (allS (own_exaNS A13) all0)).ext E15) K16 (allS (own_exaNS A15) all0)) hp21_hArr hp21_hsz hp21_hbox ((((hOld.ext E13).keep K14 (allS g_b13 all0)).ext E15).keep K16 (allS g_b15 all0)) hp21_hq) hZ (hw _ (List.mem_of_getElem? (i := 32) rfl)) (hw _ (List.mem_of_getElem? (i := 31) rfl)) (by decide) (by decide)) (g := (mkF m 167 #[.val (.long q1), .second, .val (.long q2), .second, .val (.long q3), .second, .val (.long q4), .second, .val (.long q5), .second, .val (.int i6), .val (.long ((1 : Int64) + ((q1 &&& (2147483647 : Int64)) % (100 : Int64)))), .second, .val (.long v17_2_s0), .second, .val (.long (own_ini q2)), .second, .val (.long v51_6_s0), .second, .val (.long (own_most (own_ini q2) q3)), .second, .val (.long v79_12_s0), .second, .val (.ref b13), .val (.ref b15), .val (.int v139_20_s0), .unset] [(.long (own_ini q2))])) rfl (by rw [hml]; rfl) (argsL := [(.long (own_ini q2))]) (rest := []) (lenOf pd_5 rfl) rfl (by show 2 * 0 + _ ≤ _; exact Nat.le_of_eq rfl) (hb hby at_167) (fun _ _ => ⟨rfl, e139_20, (by decide : 2 + 1 ≤ _), (by decide : 6 + 1 ≤ _)⟩)
          dsimp only [Pt.U, Pt.locs, Pt.cells, Pt.slots] at X21 l21 y21 z21 st21 hQ21
          subst l21 y21 z21
          obtain ⟨b21, rfl, Nq21, K21, P21⟩ := hQ21
          obtain ⟨Lo21, X21, N21⟩ : ∃ K, Stand p l e room_1 s m #[(.long q1), (.long q2), (.long q3), (.long q4), (.long q5), (.int i6)] below meth c T21 K 3 7 ∧ Fr n0 K := ⟨_, X21, (Fr.app N16 Nq21)⟩
          refine own_step (f' := (mkF m 170 #[.val (.long q1), .second, .val (.long q2), .second, .val (.long q3), .second, .val (.long q4), .second, .val (.long q5), .second, .val (.int i6), .val (.long ((1 : Int64) + ((q1 &&& (2147483647 : Int64)) % (100 : Int64)))), .second, .val (.long v17_2_s0), .second, .val (.long (own_ini q2)), .second, .val (.long v51_6_s0), .second, .val (.long (own_most (own_ini q2) q3)), .second, .val (.long v79_12_s0), .second, .val (.ref b13), .val (.ref b15), .val (.int v139_20_s0), .unset] [(.ref b21)])) st21 ?_
          refine own_step (f' := (mkF m 172 #[.val (.long q1), .second, .val (.long q2), .second, .val (.long q3), .second, .val (.long q4), .second, .val (.long q5), .second, .val (.int i6), .val (.long ((1 : Int64) + ((q1 &&& (2147483647 : Int64)) % (100 : Int64)))), .second, .val (.long v17_2_s0), .second, .val (.long (own_ini q2)), .second, .val (.long v51_6_s0), .second, .val (.long (own_most (own_ini q2) q3)), .second, .val (.long v79_12_s0), .second, .val (.ref b13), .val (.ref b15), .val (.int v139_20_s0), .val (.ref b21)] [])) (fun _ k => XS.astore X21.here hx rfl (hb hby at_170) rfl rfl (l' := #[.val (.long q1), .second, .val (.long q2), .second, .val (.long q3), .second, .val (.long q4), .second, .val (.long q5), .second, .val (.int i6), .val (.long ((1 : Int64) + ((q1 &&& (2147483647 : Int64)) % (100 : Int64)))), .second, .val (.long v17_2_s0), .second, .val (.long (own_ini q2)), .second, .val (.long v51_6_s0), .second, .val (.long (own_most (own_ini q2) q3)), .second, .val (.long v79_12_s0), .second, .val (.ref b13), .val (.ref b15), .val (.int v139_20_s0), .val (.ref b21)]) rfl k) ?_
          refine own_step (f' := (mkF m 174 #[.val (.long q1), .second, .val (.long q2), .second, .val (.long q3), .second, .val (.long q4), .second, .val (.long q5), .second, .val (.int i6), .val (.long ((1 : Int64) + ((q1 &&& (2147483647 : Int64)) % (100 : Int64)))), .second, .val (.long v17_2_s0), .second, .val (.long (own_ini q2)), .second, .val (.long v51_6_s0), .second, .val (.long (own_most (own_ini q2) q3)), .second, .val (.long v79_12_s0), .second, .val (.ref b13), .val (.ref b15), .val (.int v139_20_s0), .val (.ref b21)] [(.ref b13)])) (fun _ k => XS.aload X21.here hx rfl (hb hby at_172) rfl rfl k) ?_
          refine own_step (f' := (mkF m 176 #[.val (.long q1), .second, .val (.long q2), .second, .val (.long q3), .second, .val (.long q4), .second, .val (.long q5), .second, .val (.int i6), .val (.long ((1 : Int64) + ((q1 &&& (2147483647 : Int64)) % (100 : Int64)))), .second, .val (.long v17_2_s0), .second, .val (.long (own_ini q2)), .second, .val (.long v51_6_s0), .second, .val (.long (own_most (own_ini q2) q3)), .second, .val (.long v79_12_s0), .second, .val (.ref b13), .val (.ref b15), .val (.int v139_20_s0), .val (.ref b21)] [(.ref b15), (.ref b13)])) (fun _ k => XS.aload X21.here hx rfl (hb hby at_174) rfl rfl k) ?_
          have Zq22 : n0 ≤ T21.heap.size := (Nat.le_trans (Nat.le_trans (Nat.le_trans (Nat.le_trans (Nat.le_trans Z0 E13.1) K14.1) E15.1) K16.1) K21.1)
          obtain ⟨cq22, kq22, q22a, q22b, q22c⟩ := isOf hZ rfl (((P14_0.ext E15).keep K16).keep K21)
          obtain ⟨_, _, ⟨T22, L22, k22, n22⟩, -, X22, ⟨Lc22, hQ22, l22, y22, z22⟩, st22⟩ := X21.virtualBack hx (y := (⟨"com/example/kookaburra/kookaburra/core/RetryPolicy", "equals", "(Ljava/lang/Object;)Z"⟩ : MethodName)) (z := (⟨"com/example/kookaburra/kookaburra/core/RetryPolicy", "equals", "(Ljava/lang/Object;)Z"⟩ : MethodName)) hown (mvT hZ (hw _ (List.mem_of_getElem? (i := 37) rfl))) (mvT hZ (hw _ (List.mem_of_getElem? (i := 38) rfl))) (notFace_of_selects (args := #[]) (mvT hZ (hw _ (List.mem_of_getElem? (i := 40) rfl)))) (mvT hZ (hw _ (List.mem_of_getElem? (i := 40) rfl))) (mvT hZ (hw _ (List.mem_of_getElem? (i := 39) rfl))) (by decide) (backOf (W := 0) (rm6r l Z a0 hw [] b13 b15 (((1 : Int64) + ((q1 &&& (2147483647 : Int64)) % (100 : Int64))).toInt32) (own_ini q2) (own_most (own_ini q2) q3) (v17_2_s0.toInt32) v51_6_s0 v79_12_s0 T21.heap n0 Zq22 (P16_0.keep K21) (((P14_1.ext E15).keep K16 (ninS ne_b13_b15 nin0)).keep K21 nin0) (((P14_2.ext E15).keep K16 (ninS ne_b13_b15 nin0)).keep K21 nin0) (((P14_3.ext E15).keep K16 (ninS ne_b13_b15 nin0)).keep K21 nin0) (P16_1.keep K21 nin0) (P16_2.keep K21 nin0) (P16_3.keep K21 nin0)) hZ (hw _ (List.mem_of_getElem? (i := 41) rfl)) (hw _ (List.mem_of_getElem? (i := 14) rfl)) (by decide) (by decide)) q22a q22c (g := (mkF m 176 #[.val (.long q1), .second, .val (.long q2), .second, .val (.long q3), .second, .val (.long q4), .second, .val (.long q5), .second, .val (.int i6), .val (.long ((1 : Int64) + ((q1 &&& (2147483647 : Int64)) % (100 : Int64)))), .second, .val (.long v17_2_s0), .second, .val (.long (own_ini q2)), .second, .val (.long v51_6_s0), .second, .val (.long (own_most (own_ini q2) q3)), .second, .val (.long v79_12_s0), .second, .val (.ref b13), .val (.ref b15), .val (.int v139_20_s0), .val (.ref b21)] [(.ref b15), (.ref b13)])) rfl (by rw [hml]; rfl) (Steps.refl _) (argsL := [(.ref b15)]) (rest := []) (lenOf pd_6 rfl) rfl (by show 2 * 0 + _ ≤ _; exact Nat.le_of_eq rfl) (hb hby at_176) (fun _ _ => ⟨rfl, rfl, (by decide : 3 + 0 ≤ _), (by decide : 7 + 0 ≤ _)⟩)
          dsimp only [Pt.U, Pt.locs, Pt.cells, Pt.slots] at X22 l22 y22 z22 st22 hQ22
          subst l22 y22 z22
          obtain ⟨rfl, rfl, e22⟩ := hQ22
          try rw [List.append_nil] at X22
          refine own_jump (f' := (mkF m 179 #[.val (.long q1), .second, .val (.long q2), .second, .val (.long q3), .second, .val (.long q4), .second, .val (.long q5), .second, .val (.int i6), .val (.long ((1 : Int64) + ((q1 &&& (2147483647 : Int64)) % (100 : Int64)))), .second, .val (.long v17_2_s0), .second, .val (.long (own_ini q2)), .second, .val (.long v51_6_s0), .second, .val (.long (own_most (own_ini q2) q3)), .second, .val (.long v79_12_s0), .second, .val (.ref b13), .val (.ref b15), .val (.int v139_20_s0), .val (.ref b21)] [(.int (own_eq3 (((1 : Int64) + ((q1 &&& (2147483647 : Int64)) % (100 : Int64))).toInt32) (v17_2_s0.toInt32) (own_ini q2) v51_6_s0 (own_most (own_ini q2) q3) v79_12_s0))])) st22 ?_
          refine own_step (f' := (mkF m 181 #[.val (.long q1), .second, .val (.long q2), .second, .val (.long q3), .second, .val (.long q4), .second, .val (.long q5), .second, .val (.int i6), .val (.long ((1 : Int64) + ((q1 &&& (2147483647 : Int64)) % (100 : Int64)))), .second, .val (.long v17_2_s0), .second, .val (.long (own_ini q2)), .second, .val (.long v51_6_s0), .second, .val (.long (own_most (own_ini q2) q3)), .second, .val (.long v79_12_s0), .second, .val (.ref b13), .val (.ref b15), .val (.int v139_20_s0), .val (.ref b21)] [(.int v139_20_s0), (.int (own_eq3 (((1 : Int64) + ((q1 &&& (2147483647 : Int64)) % (100 : Int64))).toInt32) (v17_2_s0.toInt32) (own_ini q2) v51_6_s0 (own_most (own_ini q2) q3) v79_12_s0))])) (fun _ k => XS.iload X22.here hx rfl (hb hby at_179) rfl k) ?_
          have hf181_23 : (own_eq3 (((1 : Int64) + ((q1 &&& (2147483647 : Int64)) % (100 : Int64))).toInt32) (v17_2_s0.toInt32) (own_ini q2) v51_6_s0 (own_most (own_ini q2) q3) v79_12_s0) = v139_20_s0 := hfin.1
          refine own_step (f' := (mkF m 184 #[.val (.long q1), .second, .val (.long q2), .second, .val (.long q3), .second, .val (.long q4), .second, .val (.long q5), .second, .val (.int i6), .val (.long ((1 : Int64) + ((q1 &&& (2147483647 : Int64)) % (100 : Int64)))), .second, .val (.long v17_2_s0), .second, .val (.long (own_ini q2)), .second, .val (.long v51_6_s0), .second, .val (.long (own_most (own_ini q2) q3)), .second, .val (.long v79_12_s0), .second, .val (.ref b13), .val (.ref b15), .val (.int v139_20_s0), .val (.ref b21)] [])) (fun _ k => XS.icmpNo X22.here hx rfl (hb hby at_181) rfl (teq hf181_23).2 k) ?_
          refine own_step (f' := (mkF m 186 #[.val (.long q1), .second, .val (.long q2), .second, .val (.long q3), .second, .val (.long q4), .second, .val (.long q5), .second, .val (.int i6), .val (.long ((1 : Int64) + ((q1 &&& (2147483647 : Int64)) % (100 : Int64)))), .second, .val (.long v17_2_s0), .second, .val (.long (own_ini q2)), .second, .val (.long v51_6_s0), .second, .val (.long (own_most (own_ini q2) q3)), .second, .val (.long v79_12_s0), .second, .val (.ref b13), .val (.ref b15), .val (.int v139_20_s0), .val (.ref b21)] [(.ref b15)])) (fun _ k => XS.aload X22.here hx rfl (hb hby at_184) rfl rfl k) ?_
          refine own_step (f' := (mkF m 188 #[.val (.long q1), .second, .val (.long q2), .second, .val (.long q3), .second, .val (.long q4), .second, .val (.long q5), .second, .val (.int i6), .val (.long ((1 : Int64) + ((q1 &&& (2147483647 : Int64)) % (100 : Int64)))), .second, .val (.long v17_2_s0), .second, .val (.long (own_ini q2)), .second, .val (.long v51_6_s0), .second, .val (.long (own_most (own_ini q2) q3)), .second, .val (.long v79_12_s0), .second, .val (.ref b13), .val (.ref b15), .val (.int v139_20_s0), .val (.ref b21)] [(.ref b13), (.ref b15)])) (fun _ k => XS.aload X22.here hx rfl (hb hby at_186) rfl rfl k) ?_
          have Zq24 : n0 ≤ T21.heap.size := (Nat.le_trans (Nat.le_trans (Nat.le_trans (Nat.le_trans (Nat.le_trans Z0 E13.1) K14.1) E15.1) K16.1) K21.1)
          obtain ⟨cq24, kq24, q24a, q24b, q24c⟩ := isOf hZ e22 (P16_0.keep K21)
          obtain ⟨_, _, ⟨T24, L24, k24, n24⟩, -, X24, ⟨Lc24, hQ24, l24, y24, z24⟩, st24⟩ := X22.virtualBack hx (y := (⟨"com/example/kookaburra/kookaburra/core/RetryPolicy", "equals", "(Ljava/lang/Object;)Z"⟩ : MethodName)) (z := (⟨"com/example/kookaburra/kookaburra/core/RetryPolicy", "equals", "(Ljava/lang/Object;)Z"⟩ : MethodName)) hown (mvT hZ (hw _ (List.mem_of_getElem? (i := 37) rfl))) (mvT hZ (hw _ (List.mem_of_getElem? (i := 38) rfl))) (notFace_of_selects (args := #[]) (mvT hZ (hw _ (List.mem_of_getElem? (i := 40) rfl)))) (mvT hZ (hw _ (List.mem_of_getElem? (i := 40) rfl))) (mvT hZ (hw _ (List.mem_of_getElem? (i := 39) rfl))) (by decide) (backOf (W := 0) (rm6r l Z a0 hw [] b15 b13 (v17_2_s0.toInt32) v51_6_s0 v79_12_s0 (((1 : Int64) + ((q1 &&& (2147483647 : Int64)) % (100 : Int64))).toInt32) (own_ini q2) (own_most (own_ini q2) q3) T21.heap n0 Zq24 (((P14_0.ext E15).keep K16).keep K21) (P16_1.keep K21 nin0) (P16_2.keep K21 nin0) (P16_3.keep K21 nin0) (((P14_1.ext E15).keep K16 (ninS ne_b13_b15 nin0)).keep K21 nin0) (((P14_2.ext E15).keep K16 (ninS ne_b13_b15 nin0)).keep K21 nin0) (((P14_3.ext E15).keep K16 (ninS ne_b13_b15 nin0)).keep K21 nin0)) hZ (hw _ (List.mem_of_getElem? (i := 41) rfl)) (hw _ (List.mem_of_getElem? (i := 14) rfl)) (by decide) (by decide)) q24a q24c (g := (mkF m 188 #[.val (.long q1), .second, .val (.long q2), .second, .val (.long q3), .second, .val (.long q4), .second, .val (.long q5), .second, .val (.int i6), .val (.long ((1 : Int64) + ((q1 &&& (2147483647 : Int64)) % (100 : Int64)))), .second, .val (.long v17_2_s0), .second, .val (.long (own_ini q2)), .second, .val (.long v51_6_s0), .second, .val (.long (own_most (own_ini q2) q3)), .second, .val (.long v79_12_s0), .second, .val (.ref b13), .val (.ref b15), .val (.int v139_20_s0), .val (.ref b21)] [(.ref b13), (.ref b15)])) rfl (by rw [hml]; rfl) (Steps.refl _) (argsL := [(.ref b13)]) (rest := []) (lenOf pd_6 rfl) rfl (by show 2 * 0 + _ ≤ _; exact Nat.le_of_eq rfl) (hb hby at_188) (fun _ _ => ⟨rfl, e22, (by decide : 3 + 0 ≤ _), (by decide : 7 + 0 ≤ _)⟩)
          dsimp only [Pt.U, Pt.locs, Pt.cells, Pt.slots] at X24 l24 y24 z24 st24 hQ24
          subst l24 y24 z24
          obtain ⟨rfl, rfl, e24⟩ := hQ24
          try rw [List.append_nil] at X24
          refine own_jump (f' := (mkF m 191 #[.val (.long q1), .second, .val (.long q2), .second, .val (.long q3), .second, .val (.long q4), .second, .val (.long q5), .second, .val (.int i6), .val (.long ((1 : Int64) + ((q1 &&& (2147483647 : Int64)) % (100 : Int64)))), .second, .val (.long v17_2_s0), .second, .val (.long (own_ini q2)), .second, .val (.long v51_6_s0), .second, .val (.long (own_most (own_ini q2) q3)), .second, .val (.long v79_12_s0), .second, .val (.ref b13), .val (.ref b15), .val (.int v139_20_s0), .val (.ref b21)] [(.int (own_eq3 (v17_2_s0.toInt32) (((1 : Int64) + ((q1 &&& (2147483647 : Int64)) % (100 : Int64))).toInt32) v51_6_s0 (own_ini q2) v79_12_s0 (own_most (own_ini q2) q3)))])) st24 ?_
          refine own_step (f' := (mkF m 193 #[.val (.long q1), .second, .val (.long q2), .second, .val (.long q3), .second, .val (.long q4), .second, .val (.long q5), .second, .val (.int i6), .val (.long ((1 : Int64) + ((q1 &&& (2147483647 : Int64)) % (100 : Int64)))), .second, .val (.long v17_2_s0), .second, .val (.long (own_ini q2)), .second, .val (.long v51_6_s0), .second, .val (.long (own_most (own_ini q2) q3)), .second, .val (.long v79_12_s0), .second, .val (.ref b13), .val (.ref b15), .val (.int v139_20_s0), .val (.ref b21)] [(.int v139_20_s0), (.int (own_eq3 (v17_2_s0.toInt32) (((1 : Int64) + ((q1 &&& (2147483647 : Int64)) % (100 : Int64))).toInt32) v51_6_s0 (own_ini q2) v79_12_s0 (own_most (own_ini q2) q3)))])) (fun _ k => XS.iload X24.here hx rfl (hb hby at_191) rfl k) ?_
          have hf193_25 : (own_eq3 (v17_2_s0.toInt32) (((1 : Int64) + ((q1 &&& (2147483647 : Int64)) % (100 : Int64))).toInt32) v51_6_s0 (own_ini q2) v79_12_s0 (own_most (own_ini q2) q3)) = v139_20_s0 := hfin.2.1
          refine own_step (f' := (mkF m 196 #[.val (.long q1), .second, .val (.long q2), .second, .val (.long q3), .second, .val (.long q4), .second, .val (.long q5), .second, .val (.int i6), .val (.long ((1 : Int64) + ((q1 &&& (2147483647 : Int64)) % (100 : Int64)))), .second, .val (.long v17_2_s0), .second, .val (.long (own_ini q2)), .second, .val (.long v51_6_s0), .second, .val (.long (own_most (own_ini q2) q3)), .second, .val (.long v79_12_s0), .second, .val (.ref b13), .val (.ref b15), .val (.int v139_20_s0), .val (.ref b21)] [])) (fun _ k => XS.icmpNo X24.here hx rfl (hb hby at_193) rfl (teq hf193_25).2 k) ?_
          refine own_step (f' := (mkF m 198 #[.val (.long q1), .second, .val (.long q2), .second, .val (.long q3), .second, .val (.long q4), .second, .val (.long q5), .second, .val (.int i6), .val (.long ((1 : Int64) + ((q1 &&& (2147483647 : Int64)) % (100 : Int64)))), .second, .val (.long v17_2_s0), .second, .val (.long (own_ini q2)), .second, .val (.long v51_6_s0), .second, .val (.long (own_most (own_ini q2) q3)), .second, .val (.long v79_12_s0), .second, .val (.ref b13), .val (.ref b15), .val (.int v139_20_s0), .val (.ref b21)] [(.ref b13)])) (fun _ k => XS.aload X24.here hx rfl (hb hby at_196) rfl rfl k) ?_
          refine own_step (f' := (mkF m 200 #[.val (.long q1), .second, .val (.long q2), .second, .val (.long q3), .second, .val (.long q4), .second, .val (.long q5), .second, .val (.int i6), .val (.long ((1 : Int64) + ((q1 &&& (2147483647 : Int64)) % (100 : Int64)))), .second, .val (.long v17_2_s0), .second, .val (.long (own_ini q2)), .second, .val (.long v51_6_s0), .second, .val (.long (own_most (own_ini q2) q3)), .second, .val (.long v79_12_s0), .second, .val (.ref b13), .val (.ref b15), .val (.int v139_20_s0), .val (.ref b21)] [(.ref b13), (.ref b13)])) (fun _ k => XS.aload X24.here hx rfl (hb hby at_198) rfl rfl k) ?_
          have Zq26 : n0 ≤ T21.heap.size := (Nat.le_trans (Nat.le_trans (Nat.le_trans (Nat.le_trans (Nat.le_trans Z0 E13.1) K14.1) E15.1) K16.1) K21.1)
          obtain ⟨cq26, kq26, q26a, q26b, q26c⟩ := isOf hZ e24 (((P14_0.ext E15).keep K16).keep K21)
          obtain ⟨_, _, ⟨T26, L26, k26, n26⟩, -, X26, ⟨Lc26, hQ26, l26, y26, z26⟩, st26⟩ := X24.virtualBack hx (y := (⟨"com/example/kookaburra/kookaburra/core/RetryPolicy", "equals", "(Ljava/lang/Object;)Z"⟩ : MethodName)) (z := (⟨"com/example/kookaburra/kookaburra/core/RetryPolicy", "equals", "(Ljava/lang/Object;)Z"⟩ : MethodName)) hown (mvT hZ (hw _ (List.mem_of_getElem? (i := 37) rfl))) (mvT hZ (hw _ (List.mem_of_getElem? (i := 38) rfl))) (notFace_of_selects (args := #[]) (mvT hZ (hw _ (List.mem_of_getElem? (i := 40) rfl)))) (mvT hZ (hw _ (List.mem_of_getElem? (i := 40) rfl))) (mvT hZ (hw _ (List.mem_of_getElem? (i := 39) rfl))) (by decide) (backOf (W := 0) (rm6r l Z a0 hw [] b13 b13 (((1 : Int64) + ((q1 &&& (2147483647 : Int64)) % (100 : Int64))).toInt32) (own_ini q2) (own_most (own_ini q2) q3) (((1 : Int64) + ((q1 &&& (2147483647 : Int64)) % (100 : Int64))).toInt32) (own_ini q2) (own_most (own_ini q2) q3) T21.heap n0 Zq26 (((P14_0.ext E15).keep K16).keep K21) (((P14_1.ext E15).keep K16 (ninS ne_b13_b15 nin0)).keep K21 nin0) (((P14_2.ext E15).keep K16 (ninS ne_b13_b15 nin0)).keep K21 nin0) (((P14_3.ext E15).keep K16 (ninS ne_b13_b15 nin0)).keep K21 nin0) (((P14_1.ext E15).keep K16 (ninS ne_b13_b15 nin0)).keep K21 nin0) (((P14_2.ext E15).keep K16 (ninS ne_b13_b15 nin0)).keep K21 nin0) (((P14_3.ext E15).keep K16 (ninS ne_b13_b15 nin0)).keep K21 nin0)) hZ (hw _ (List.mem_of_getElem? (i := 41) rfl)) (hw _ (List.mem_of_getElem? (i := 14) rfl)) (by decide) (by decide)) q26a q26c (g := (mkF m 200 #[.val (.long q1), .second, .val (.long q2), .second, .val (.long q3), .second, .val (.long q4), .second, .val (.long q5), .second, .val (.int i6), .val (.long ((1 : Int64) + ((q1 &&& (2147483647 : Int64)) % (100 : Int64)))), .second, .val (.long v17_2_s0), .second, .val (.long (own_ini q2)), .second, .val (.long v51_6_s0), .second, .val (.long (own_most (own_ini q2) q3)), .second, .val (.long v79_12_s0), .second, .val (.ref b13), .val (.ref b15), .val (.int v139_20_s0), .val (.ref b21)] [(.ref b13), (.ref b13)])) rfl (by rw [hml]; rfl) (Steps.refl _) (argsL := [(.ref b13)]) (rest := []) (lenOf pd_6 rfl) rfl (by show 2 * 0 + _ ≤ _; exact Nat.le_of_eq rfl) (hb hby at_200) (fun _ _ => ⟨rfl, e24, (by decide : 3 + 0 ≤ _), (by decide : 7 + 0 ≤ _)⟩)
          dsimp only [Pt.U, Pt.locs, Pt.cells, Pt.slots] at X26 l26 y26 z26 st26 hQ26
          subst l26 y26 z26
          obtain ⟨rfl, rfl, e26⟩ := hQ26
          try rw [List.append_nil] at X26
          refine own_jump (f' := (mkF m 203 #[.val (.long q1), .second, .val (.long q2), .second, .val (.long q3), .second, .val (.long q4), .second, .val (.long q5), .second, .val (.int i6), .val (.long ((1 : Int64) + ((q1 &&& (2147483647 : Int64)) % (100 : Int64)))), .second, .val (.long v17_2_s0), .second, .val (.long (own_ini q2)), .second, .val (.long v51_6_s0), .second, .val (.long (own_most (own_ini q2) q3)), .second, .val (.long v79_12_s0), .second, .val (.ref b13), .val (.ref b15), .val (.int v139_20_s0), .val (.ref b21)] [(.int (own_eq3 (((1 : Int64) + ((q1 &&& (2147483647 : Int64)) % (100 : Int64))).toInt32) (((1 : Int64) + ((q1 &&& (2147483647 : Int64)) % (100 : Int64))).toInt32) (own_ini q2) (own_ini q2) (own_most (own_ini q2) q3) (own_most (own_ini q2) q3)))])) st26 ?_
          have hf203_27 : ¬ ((own_eq3 (((1 : Int64) + ((q1 &&& (2147483647 : Int64)) % (100 : Int64))).toInt32) (((1 : Int64) + ((q1 &&& (2147483647 : Int64)) % (100 : Int64))).toInt32) (own_ini q2) (own_ini q2) (own_most (own_ini q2) q3) (own_most (own_ini q2) q3)) = (0 : Int32)) := hfin.2.2
          refine own_step (f' := (mkF m 206 #[.val (.long q1), .second, .val (.long q2), .second, .val (.long q3), .second, .val (.long q4), .second, .val (.long q5), .second, .val (.int i6), .val (.long ((1 : Int64) + ((q1 &&& (2147483647 : Int64)) % (100 : Int64)))), .second, .val (.long v17_2_s0), .second, .val (.long (own_ini q2)), .second, .val (.long v51_6_s0), .second, .val (.long (own_most (own_ini q2) q3)), .second, .val (.long v79_12_s0), .second, .val (.ref b13), .val (.ref b15), .val (.int v139_20_s0), .val (.ref b21)] [])) (fun _ k => XS.ifNo X26.here hx rfl (hb hby at_203) rfl ((if0 _ _).trans (feq hf203_27).1) k) ?_
          refine own_step (f' := (mkF m 208 #[.val (.long q1), .second, .val (.long q2), .second, .val (.long q3), .second, .val (.long q4), .second, .val (.long q5), .second, .val (.int i6), .val (.long ((1 : Int64) + ((q1 &&& (2147483647 : Int64)) % (100 : Int64)))), .second, .val (.long v17_2_s0), .second, .val (.long (own_ini q2)), .second, .val (.long v51_6_s0), .second, .val (.long (own_most (own_ini q2) q3)), .second, .val (.long v79_12_s0), .second, .val (.ref b13), .val (.ref b15), .val (.int v139_20_s0), .val (.ref b21)] [(.ref b13)])) (fun _ k => XS.aload X26.here hx rfl (hb hby at_206) rfl rfl k) ?_
          refine own_step (f' := (mkF m 209 #[.val (.long q1), .second, .val (.long q2), .second, .val (.long q3), .second, .val (.long q4), .second, .val (.long q5), .second, .val (.int i6), .val (.long ((1 : Int64) + ((q1 &&& (2147483647 : Int64)) % (100 : Int64)))), .second, .val (.long v17_2_s0), .second, .val (.long (own_ini q2)), .second, .val (.long v51_6_s0), .second, .val (.long (own_most (own_ini q2) q3)), .second, .val (.long v79_12_s0), .second, .val (.ref b13), .val (.ref b15), .val (.int v139_20_s0), .val (.ref b21)] [.null, (.ref b13)])) (fun _ k => XS.aconstNull X26.here hx rfl (hb hby at_208) k) ?_
          have Zq28 : n0 ≤ T21.heap.size := (Nat.le_trans (Nat.le_trans (Nat.le_trans (Nat.le_trans (Nat.le_trans Z0 E13.1) K14.1) E15.1) K16.1) K21.1)
          obtain ⟨cq28, kq28, q28a, q28b, q28c⟩ := isOf hZ e26 (((P14_0.ext E15).keep K16).keep K21)
          obtain ⟨_, _, ⟨T28, L28, k28, n28⟩, -, X28, ⟨Lc28, hQ28, l28, y28, z28⟩, st28⟩ := X26.virtualBack hx (y := (⟨"com/example/kookaburra/kookaburra/core/RetryPolicy", "equals", "(Ljava/lang/Object;)Z"⟩ : MethodName)) (z := (⟨"com/example/kookaburra/kookaburra/core/RetryPolicy", "equals", "(Ljava/lang/Object;)Z"⟩ : MethodName)) hown (mvT hZ (hw _ (List.mem_of_getElem? (i := 37) rfl))) (mvT hZ (hw _ (List.mem_of_getElem? (i := 38) rfl))) (notFace_of_selects (args := #[]) (mvT hZ (hw _ (List.mem_of_getElem? (i := 40) rfl)))) (mvT hZ (hw _ (List.mem_of_getElem? (i := 40) rfl))) (mvT hZ (hw _ (List.mem_of_getElem? (i := 39) rfl))) (by decide) (backOf (W := 0) (rm6n l Z a0 hw [] b13 T21.heap n0 Zq28 ) hZ (hw _ (List.mem_of_getElem? (i := 41) rfl)) (hw _ (List.mem_of_getElem? (i := 14) rfl)) (by decide) (by decide)) q28a q28c (g := (mkF m 209 #[.val (.long q1), .second, .val (.long q2), .second, .val (.long q3), .second, .val (.long q4), .second, .val (.long q5), .second, .val (.int i6), .val (.long ((1 : Int64) + ((q1 &&& (2147483647 : Int64)) % (100 : Int64)))), .second, .val (.long v17_2_s0), .second, .val (.long (own_ini q2)), .second, .val (.long v51_6_s0), .second, .val (.long (own_most (own_ini q2) q3)), .second, .val (.long v79_12_s0), .second, .val (.ref b13), .val (.ref b15), .val (.int v139_20_s0), .val (.ref b21)] [.null, (.ref b13)])) rfl (by rw [hml]; rfl) (Steps.refl _) (argsL := [.null]) (rest := []) (lenOf pd_6 rfl) rfl (by show 2 * 0 + _ ≤ _; exact Nat.le_of_eq rfl) (hb hby at_209) (fun _ _ => ⟨rfl, e26, (by decide : 3 + 0 ≤ _), (by decide : 7 + 0 ≤ _)⟩)
          dsimp only [Pt.U, Pt.locs, Pt.cells, Pt.slots] at X28 l28 y28 z28 st28 hQ28
          subst l28 y28 z28
          obtain ⟨rfl, rfl, e28⟩ := hQ28
          try rw [List.append_nil] at X28
          refine own_jump (f' := (mkF m 212 #[.val (.long q1), .second, .val (.long q2), .second, .val (.long q3), .second, .val (.long q4), .second, .val (.long q5), .second, .val (.int i6), .val (.long ((1 : Int64) + ((q1 &&& (2147483647 : Int64)) % (100 : Int64)))), .second, .val (.long v17_2_s0), .second, .val (.long (own_ini q2)), .second, .val (.long v51_6_s0), .second, .val (.long (own_most (own_ini q2) q3)), .second, .val (.long v79_12_s0), .second, .val (.ref b13), .val (.ref b15), .val (.int v139_20_s0), .val (.ref b21)] [(.int (0 : Int32))])) st28 ?_
          refine own_step (f' := (mkF m 215 #[.val (.long q1), .second, .val (.long q2), .second, .val (.long q3), .second, .val (.long q4), .second, .val (.long q5), .second, .val (.int i6), .val (.long ((1 : Int64) + ((q1 &&& (2147483647 : Int64)) % (100 : Int64)))), .second, .val (.long v17_2_s0), .second, .val (.long (own_ini q2)), .second, .val (.long v51_6_s0), .second, .val (.long (own_most (own_ini q2) q3)), .second, .val (.long v79_12_s0), .second, .val (.ref b13), .val (.ref b15), .val (.int v139_20_s0), .val (.ref b21)] [])) (fun _ k => XS.ifNo X28.here hx rfl (hb hby at_212) rfl ((if0 _ _).trans (teq (by decide : ((0 : Int32) = (0 : Int32)))).2) k) ?_
          refine own_step (f' := (mkF m 217 #[.val (.long q1), .second, .val (.long q2), .second, .val (.long q3), .second, .val (.long q4), .second, .val (.long q5), .second, .val (.int i6), .val (.long ((1 : Int64) + ((q1 &&& (2147483647 : Int64)) % (100 : Int64)))), .second, .val (.long v17_2_s0), .second, .val (.long (own_ini q2)), .second, .val (.long v51_6_s0), .second, .val (.long (own_most (own_ini q2) q3)), .second, .val (.long v79_12_s0), .second, .val (.ref b13), .val (.ref b15), .val (.int v139_20_s0), .val (.ref b21)] [(.ref b13)])) (fun _ k => XS.aload X28.here hx rfl (hb hby at_215) rfl rfl k) ?_
          refine own_step (f' := (mkF m 219 #[.val (.long q1), .second, .val (.long q2), .second, .val (.long q3), .second, .val (.long q4), .second, .val (.long q5), .second, .val (.int i6), .val (.long ((1 : Int64) + ((q1 &&& (2147483647 : Int64)) % (100 : Int64)))), .second, .val (.long v17_2_s0), .second, .val (.long (own_ini q2)), .second, .val (.long v51_6_s0), .second, .val (.long (own_most (own_ini q2) q3)), .second, .val (.long v79_12_s0), .second, .val (.ref b13), .val (.ref b15), .val (.int v139_20_s0), .val (.ref b21)] [(.ref b21), (.ref b13)])) (fun _ k => XS.aload X28.here hx rfl (hb hby at_217) rfl rfl k) ?_
          have Zq29 : n0 ≤ T21.heap.size := (Nat.le_trans (Nat.le_trans (Nat.le_trans (Nat.le_trans (Nat.le_trans Z0 E13.1) K14.1) E15.1) K16.1) K21.1)
          obtain ⟨cq29, kq29, q29a, q29b, q29c⟩ := isOf hZ e28 (((P14_0.ext E15).keep K16).keep K21)
          obtain ⟨_, _, ⟨T29, L29, k29, n29⟩, -, X29, ⟨Lc29, hQ29, l29, y29, z29⟩, st29⟩ := X28.virtualBack hx (y := (⟨"com/example/kookaburra/kookaburra/core/RetryPolicy", "equals", "(Ljava/lang/Object;)Z"⟩ : MethodName)) (z := (⟨"com/example/kookaburra/kookaburra/core/RetryPolicy", "equals", "(Ljava/lang/Object;)Z"⟩ : MethodName)) hown (mvT hZ (hw _ (List.mem_of_getElem? (i := 37) rfl))) (mvT hZ (hw _ (List.mem_of_getElem? (i := 38) rfl))) (notFace_of_selects (args := #[]) (mvT hZ (hw _ (List.mem_of_getElem? (i := 40) rfl)))) (mvT hZ (hw _ (List.mem_of_getElem? (i := 40) rfl))) (mvT hZ (hw _ (List.mem_of_getElem? (i := 39) rfl))) (by decide) (backOf (W := 0) (rm6l l Z a0 hw [] b13 b21 T21.heap n0 Zq29 P21) hZ (hw _ (List.mem_of_getElem? (i := 41) rfl)) (hw _ (List.mem_of_getElem? (i := 14) rfl)) (by decide) (by decide)) q29a q29c (g := (mkF m 219 #[.val (.long q1), .second, .val (.long q2), .second, .val (.long q3), .second, .val (.long q4), .second, .val (.long q5), .second, .val (.int i6), .val (.long ((1 : Int64) + ((q1 &&& (2147483647 : Int64)) % (100 : Int64)))), .second, .val (.long v17_2_s0), .second, .val (.long (own_ini q2)), .second, .val (.long v51_6_s0), .second, .val (.long (own_most (own_ini q2) q3)), .second, .val (.long v79_12_s0), .second, .val (.ref b13), .val (.ref b15), .val (.int v139_20_s0), .val (.ref b21)] [(.ref b21), (.ref b13)])) rfl (by rw [hml]; rfl) (Steps.refl _) (argsL := [(.ref b21)]) (rest := []) (lenOf pd_6 rfl) rfl (by show 2 * 0 + _ ≤ _; exact Nat.le_of_eq rfl) (hb hby at_219) (fun _ _ => ⟨rfl, e28, (by decide : 3 + 0 ≤ _), (by decide : 7 + 0 ≤ _)⟩)
          dsimp only [Pt.U, Pt.locs, Pt.cells, Pt.slots] at X29 l29 y29 z29 st29 hQ29
          subst l29 y29 z29
          obtain ⟨rfl, rfl, e29⟩ := hQ29
          try rw [List.append_nil] at X29
          refine own_jump (f' := (mkF m 222 #[.val (.long q1), .second, .val (.long q2), .second, .val (.long q3), .second, .val (.long q4), .second, .val (.long q5), .second, .val (.int i6), .val (.long ((1 : Int64) + ((q1 &&& (2147483647 : Int64)) % (100 : Int64)))), .second, .val (.long v17_2_s0), .second, .val (.long (own_ini q2)), .second, .val (.long v51_6_s0), .second, .val (.long (own_most (own_ini q2) q3)), .second, .val (.long v79_12_s0), .second, .val (.ref b13), .val (.ref b15), .val (.int v139_20_s0), .val (.ref b21)] [(.int (0 : Int32))])) st29 ?_
          refine own_step (f' := (mkF m 225 #[.val (.long q1), .second, .val (.long q2), .second, .val (.long q3), .second, .val (.long q4), .second, .val (.long q5), .second, .val (.int i6), .val (.long ((1 : Int64) + ((q1 &&& (2147483647 : Int64)) % (100 : Int64)))), .second, .val (.long v17_2_s0), .second, .val (.long (own_ini q2)), .second, .val (.long v51_6_s0), .second, .val (.long (own_most (own_ini q2) q3)), .second, .val (.long v79_12_s0), .second, .val (.ref b13), .val (.ref b15), .val (.int v139_20_s0), .val (.ref b21)] [])) (fun _ k => XS.ifNo X29.here hx rfl (hb hby at_222) rfl ((if0 _ _).trans (teq (by decide : ((0 : Int32) = (0 : Int32)))).2) k) ?_
          refine own_step (f' := (mkF m 226 #[.val (.long q1), .second, .val (.long q2), .second, .val (.long q3), .second, .val (.long q4), .second, .val (.long q5), .second, .val (.int i6), .val (.long ((1 : Int64) + ((q1 &&& (2147483647 : Int64)) % (100 : Int64)))), .second, .val (.long v17_2_s0), .second, .val (.long (own_ini q2)), .second, .val (.long v51_6_s0), .second, .val (.long (own_most (own_ini q2) q3)), .second, .val (.long v79_12_s0), .second, .val (.ref b13), .val (.ref b15), .val (.int v139_20_s0), .val (.ref b21)] [(.int (1 : Int32))])) (fun _ k => XS.iconst X29.here hx rfl (hb hby at_225) k) ?_
          refine own_step (f' := (mkF m 230 #[.val (.long q1), .second, .val (.long q2), .second, .val (.long q3), .second, .val (.long q4), .second, .val (.long q5), .second, .val (.int i6), .val (.long ((1 : Int64) + ((q1 &&& (2147483647 : Int64)) % (100 : Int64)))), .second, .val (.long v17_2_s0), .second, .val (.long (own_ini q2)), .second, .val (.long v51_6_s0), .second, .val (.long (own_most (own_ini q2) q3)), .second, .val (.long v79_12_s0), .second, .val (.ref b13), .val (.ref b15), .val (.int v139_20_s0), .val (.ref b21)] [(.int (1 : Int32))])) (fun _ k => XS.goto X29.here hx rfl (pc0 := 226) (pc' := 230) rfl (hb hby at_226) (by decide) (by decide) k) ?_
          refine own_out (v := some (.int (1 : Int32))) X29 hlk (fun h => by rw [Bd.returns] at h; cases h) (fun fs hr => retN X29 hx (t := .boolean) Bd.returns (by simp) (hb hby at_230) hr) (by decide) (by decide) ?_
          exact ⟨rfl, N21⟩
        by_cases hc139_17 : ((1 : Int64) + ((q1 &&& (2147483647 : Int64)) % (100 : Int64))) = v17_2_s0
        · refine own_step (f' := (mkF m 142 #[.val (.long q1), .second, .val (.long q2), .second, .val (.long q3), .second, .val (.long q4), .second, .val (.long q5), .second, .val (.int i6), .val (.long ((1 : Int64) + ((q1 &&& (2147483647 : Int64)) % (100 : Int64)))), .second, .val (.long v17_2_s0), .second, .val (.long (own_ini q2)), .second, .val (.long v51_6_s0), .second, .val (.long (own_most (own_ini q2) q3)), .second, .val (.long v79_12_s0), .second, .val (.ref b13), .val (.ref b15), .unset, .unset] [])) (fun _ k => XS.ifNo X16.here hx rfl (hb hby at_139) rfl ((if0 _ _).trans (teq ((lw_eq _ _).mpr hc139_17)).2) k) ?_
          refine own_step (f' := (mkF m 144 #[.val (.long q1), .second, .val (.long q2), .second, .val (.long q3), .second, .val (.long q4), .second, .val (.long q5), .second, .val (.int i6), .val (.long ((1 : Int64) + ((q1 &&& (2147483647 : Int64)) % (100 : Int64)))), .second, .val (.long v17_2_s0), .second, .val (.long (own_ini q2)), .second, .val (.long v51_6_s0), .second, .val (.long (own_most (own_ini q2) q3)), .second, .val (.long v79_12_s0), .second, .val (.ref b13), .val (.ref b15), .unset, .unset] [(.long (own_ini q2))])) (fun _ k => XS.lload X16.here hx rfl (hb hby at_142) rfl k) ?_
          refine own_step (f' := (mkF m 146 #[.val (.long q1), .second, .val (.long q2), .second, .val (.long q3), .second, .val (.long q4), .second, .val (.long q5), .second, .val (.int i6), .val (.long ((1 : Int64) + ((q1 &&& (2147483647 : Int64)) % (100 : Int64)))), .second, .val (.long v17_2_s0), .second, .val (.long (own_ini q2)), .second, .val (.long v51_6_s0), .second, .val (.long (own_most (own_ini q2) q3)), .second, .val (.long v79_12_s0), .second, .val (.ref b13), .val (.ref b15), .unset, .unset] [(.long v51_6_s0), (.long (own_ini q2))])) (fun _ k => XS.lload X16.here hx rfl (hb hby at_144) rfl k) ?_
          refine own_step (f' := (mkF m 147 #[.val (.long q1), .second, .val (.long q2), .second, .val (.long q3), .second, .val (.long q4), .second, .val (.long q5), .second, .val (.int i6), .val (.long ((1 : Int64) + ((q1 &&& (2147483647 : Int64)) % (100 : Int64)))), .second, .val (.long v17_2_s0), .second, .val (.long (own_ini q2)), .second, .val (.long v51_6_s0), .second, .val (.long (own_most (own_ini q2) q3)), .second, .val (.long v79_12_s0), .second, .val (.ref b13), .val (.ref b15), .unset, .unset] [(.int (lcmpW (own_ini q2) v51_6_s0))])) (fun _ k => XS.lcmp X16.here hx rfl (hb hby at_146) rfl k) ?_
          by_cases hc147_1018 : (own_ini q2) = v51_6_s0
          · refine own_step (f' := (mkF m 150 #[.val (.long q1), .second, .val (.long q2), .second, .val (.long q3), .second, .val (.long q4), .second, .val (.long q5), .second, .val (.int i6), .val (.long ((1 : Int64) + ((q1 &&& (2147483647 : Int64)) % (100 : Int64)))), .second, .val (.long v17_2_s0), .second, .val (.long (own_ini q2)), .second, .val (.long v51_6_s0), .second, .val (.long (own_most (own_ini q2) q3)), .second, .val (.long v79_12_s0), .second, .val (.ref b13), .val (.ref b15), .unset, .unset] [])) (fun _ k => XS.ifNo X16.here hx rfl (hb hby at_147) rfl ((if0 _ _).trans (teq ((lw_eq _ _).mpr hc147_1018)).2) k) ?_
            refine own_step (f' := (mkF m 152 #[.val (.long q1), .second, .val (.long q2), .second, .val (.long q3), .second, .val (.long q4), .second, .val (.long q5), .second, .val (.int i6), .val (.long ((1 : Int64) + ((q1 &&& (2147483647 : Int64)) % (100 : Int64)))), .second, .val (.long v17_2_s0), .second, .val (.long (own_ini q2)), .second, .val (.long v51_6_s0), .second, .val (.long (own_most (own_ini q2) q3)), .second, .val (.long v79_12_s0), .second, .val (.ref b13), .val (.ref b15), .unset, .unset] [(.long (own_most (own_ini q2) q3))])) (fun _ k => XS.lload X16.here hx rfl (hb hby at_150) rfl k) ?_
            refine own_step (f' := (mkF m 154 #[.val (.long q1), .second, .val (.long q2), .second, .val (.long q3), .second, .val (.long q4), .second, .val (.long q5), .second, .val (.int i6), .val (.long ((1 : Int64) + ((q1 &&& (2147483647 : Int64)) % (100 : Int64)))), .second, .val (.long v17_2_s0), .second, .val (.long (own_ini q2)), .second, .val (.long v51_6_s0), .second, .val (.long (own_most (own_ini q2) q3)), .second, .val (.long v79_12_s0), .second, .val (.ref b13), .val (.ref b15), .unset, .unset] [(.long v79_12_s0), (.long (own_most (own_ini q2) q3))])) (fun _ k => XS.lload X16.here hx rfl (hb hby at_152) rfl k) ?_
            refine own_step (f' := (mkF m 155 #[.val (.long q1), .second, .val (.long q2), .second, .val (.long q3), .second, .val (.long q4), .second, .val (.long q5), .second, .val (.int i6), .val (.long ((1 : Int64) + ((q1 &&& (2147483647 : Int64)) % (100 : Int64)))), .second, .val (.long v17_2_s0), .second, .val (.long (own_ini q2)), .second, .val (.long v51_6_s0), .second, .val (.long (own_most (own_ini q2) q3)), .second, .val (.long v79_12_s0), .second, .val (.ref b13), .val (.ref b15), .unset, .unset] [(.int (lcmpW (own_most (own_ini q2) q3) v79_12_s0))])) (fun _ k => XS.lcmp X16.here hx rfl (hb hby at_154) rfl k) ?_
            by_cases hc155_1019 : (own_most (own_ini q2) q3) = v79_12_s0
            · refine own_step (f' := (mkF m 158 #[.val (.long q1), .second, .val (.long q2), .second, .val (.long q3), .second, .val (.long q4), .second, .val (.long q5), .second, .val (.int i6), .val (.long ((1 : Int64) + ((q1 &&& (2147483647 : Int64)) % (100 : Int64)))), .second, .val (.long v17_2_s0), .second, .val (.long (own_ini q2)), .second, .val (.long v51_6_s0), .second, .val (.long (own_most (own_ini q2) q3)), .second, .val (.long v79_12_s0), .second, .val (.ref b13), .val (.ref b15), .unset, .unset] [])) (fun _ k => XS.ifNo X16.here hx rfl (hb hby at_155) rfl ((if0 _ _).trans (teq ((lw_eq _ _).mpr hc155_1019)).2) k) ?_
              refine own_step (f' := (mkF m 159 #[.val (.long q1), .second, .val (.long q2), .second, .val (.long q3), .second, .val (.long q4), .second, .val (.long q5), .second, .val (.int i6), .val (.long ((1 : Int64) + ((q1 &&& (2147483647 : Int64)) % (100 : Int64)))), .second, .val (.long v17_2_s0), .second, .val (.long (own_ini q2)), .second, .val (.long v51_6_s0), .second, .val (.long (own_most (own_ini q2) q3)), .second, .val (.long v79_12_s0), .second, .val (.ref b13), .val (.ref b15), .unset, .unset] [(.int (1 : Int32))])) (fun _ k => XS.iconst X16.here hx rfl (hb hby at_158) k) ?_
              refine own_step (f' := (mkF m 163 #[.val (.long q1), .second, .val (.long q2), .second, .val (.long q3), .second, .val (.long q4), .second, .val (.long q5), .second, .val (.int i6), .val (.long ((1 : Int64) + ((q1 &&& (2147483647 : Int64)) % (100 : Int64)))), .second, .val (.long v17_2_s0), .second, .val (.long (own_ini q2)), .second, .val (.long v51_6_s0), .second, .val (.long (own_most (own_ini q2) q3)), .second, .val (.long v79_12_s0), .second, .val (.ref b13), .val (.ref b15), .unset, .unset] [(.int (1 : Int32))])) (fun _ k => XS.goto X16.here hx rfl (pc0 := 159) (pc' := 163) rfl (hb hby at_159) (by decide) (by decide) k) ?_
              exact J139_20 _ (1 : Int32) X16 rfl (by rw [if_pos hc139_17, if_pos hc147_1018, if_pos hc155_1019])
            · refine own_step (f' := (mkF m 162 #[.val (.long q1), .second, .val (.long q2), .second, .val (.long q3), .second, .val (.long q4), .second, .val (.long q5), .second, .val (.int i6), .val (.long ((1 : Int64) + ((q1 &&& (2147483647 : Int64)) % (100 : Int64)))), .second, .val (.long v17_2_s0), .second, .val (.long (own_ini q2)), .second, .val (.long v51_6_s0), .second, .val (.long (own_most (own_ini q2) q3)), .second, .val (.long v79_12_s0), .second, .val (.ref b13), .val (.ref b15), .unset, .unset] [])) (fun _ k => XS.ifYes X16.here hx rfl (pc0 := 155) (pc' := 162) rfl (hb hby at_155) rfl ((if0 _ _).trans (feq (fun q => hc155_1019 ((lw_eq _ _).mp q))).2) (by decide) (by decide) k) ?_
              refine own_step (f' := (mkF m 163 #[.val (.long q1), .second, .val (.long q2), .second, .val (.long q3), .second, .val (.long q4), .second, .val (.long q5), .second, .val (.int i6), .val (.long ((1 : Int64) + ((q1 &&& (2147483647 : Int64)) % (100 : Int64)))), .second, .val (.long v17_2_s0), .second, .val (.long (own_ini q2)), .second, .val (.long v51_6_s0), .second, .val (.long (own_most (own_ini q2) q3)), .second, .val (.long v79_12_s0), .second, .val (.ref b13), .val (.ref b15), .unset, .unset] [(.int (0 : Int32))])) (fun _ k => XS.iconst X16.here hx rfl (hb hby at_162) k) ?_
              exact J139_20 _ (0 : Int32) X16 rfl (by rw [if_pos hc139_17, if_pos hc147_1018, if_neg hc155_1019])
          · refine own_step (f' := (mkF m 162 #[.val (.long q1), .second, .val (.long q2), .second, .val (.long q3), .second, .val (.long q4), .second, .val (.long q5), .second, .val (.int i6), .val (.long ((1 : Int64) + ((q1 &&& (2147483647 : Int64)) % (100 : Int64)))), .second, .val (.long v17_2_s0), .second, .val (.long (own_ini q2)), .second, .val (.long v51_6_s0), .second, .val (.long (own_most (own_ini q2) q3)), .second, .val (.long v79_12_s0), .second, .val (.ref b13), .val (.ref b15), .unset, .unset] [])) (fun _ k => XS.ifYes X16.here hx rfl (pc0 := 147) (pc' := 162) rfl (hb hby at_147) rfl ((if0 _ _).trans (feq (fun q => hc147_1018 ((lw_eq _ _).mp q))).2) (by decide) (by decide) k) ?_
            refine own_step (f' := (mkF m 163 #[.val (.long q1), .second, .val (.long q2), .second, .val (.long q3), .second, .val (.long q4), .second, .val (.long q5), .second, .val (.int i6), .val (.long ((1 : Int64) + ((q1 &&& (2147483647 : Int64)) % (100 : Int64)))), .second, .val (.long v17_2_s0), .second, .val (.long (own_ini q2)), .second, .val (.long v51_6_s0), .second, .val (.long (own_most (own_ini q2) q3)), .second, .val (.long v79_12_s0), .second, .val (.ref b13), .val (.ref b15), .unset, .unset] [(.int (0 : Int32))])) (fun _ k => XS.iconst X16.here hx rfl (hb hby at_162) k) ?_
            exact J139_20 _ (0 : Int32) X16 rfl (by rw [if_pos hc139_17, if_neg hc147_1018])
        · refine own_step (f' := (mkF m 162 #[.val (.long q1), .second, .val (.long q2), .second, .val (.long q3), .second, .val (.long q4), .second, .val (.long q5), .second, .val (.int i6), .val (.long ((1 : Int64) + ((q1 &&& (2147483647 : Int64)) % (100 : Int64)))), .second, .val (.long v17_2_s0), .second, .val (.long (own_ini q2)), .second, .val (.long v51_6_s0), .second, .val (.long (own_most (own_ini q2) q3)), .second, .val (.long v79_12_s0), .second, .val (.ref b13), .val (.ref b15), .unset, .unset] [])) (fun _ k => XS.ifYes X16.here hx rfl (pc0 := 139) (pc' := 162) rfl (hb hby at_139) rfl ((if0 _ _).trans (feq (fun q => hc139_17 ((lw_eq _ _).mp q))).2) (by decide) (by decide) k) ?_
          refine own_step (f' := (mkF m 163 #[.val (.long q1), .second, .val (.long q2), .second, .val (.long q3), .second, .val (.long q4), .second, .val (.long q5), .second, .val (.int i6), .val (.long ((1 : Int64) + ((q1 &&& (2147483647 : Int64)) % (100 : Int64)))), .second, .val (.long v17_2_s0), .second, .val (.long (own_ini q2)), .second, .val (.long v51_6_s0), .second, .val (.long (own_most (own_ini q2) q3)), .second, .val (.long v79_12_s0), .second, .val (.ref b13), .val (.ref b15), .unset, .unset] [(.int (0 : Int32))])) (fun _ k => XS.iconst X16.here hx rfl (hb hby at_162) k) ?_
          exact J139_20 _ (0 : Int32) X16 rfl (by rw [if_neg hc139_17])
      by_cases hc79_8 : (i6 &&& (4 : Int32)) = (0 : Int32)
      · refine own_step (f' := (mkF m 95 #[.val (.long q1), .second, .val (.long q2), .second, .val (.long q3), .second, .val (.long q4), .second, .val (.long q5), .second, .val (.int i6), .val (.long ((1 : Int64) + ((q1 &&& (2147483647 : Int64)) % (100 : Int64)))), .second, .val (.long v17_2_s0), .second, .val (.long (own_ini q2)), .second, .val (.long v51_6_s0), .second, .val (.long (own_most (own_ini q2) q3)), .second, .unset, .unset, .unset, .unset, .unset, .unset] [])) (fun _ k => XS.ifYes X7.here hx rfl (pc0 := 79) (pc' := 95) rfl (hb hby at_79) rfl ((if0 _ _).trans (teq hc79_8).1) (by decide) (by decide) k) ?_
        refine own_step (f' := (mkF m 97 #[.val (.long q1), .second, .val (.long q2), .second, .val (.long q3), .second, .val (.long q4), .second, .val (.long q5), .second, .val (.int i6), .val (.long ((1 : Int64) + ((q1 &&& (2147483647 : Int64)) % (100 : Int64)))), .second, .val (.long v17_2_s0), .second, .val (.long (own_ini q2)), .second, .val (.long v51_6_s0), .second, .val (.long (own_most (own_ini q2) q3)), .second, .unset, .unset, .unset, .unset, .unset, .unset] [(.long v51_6_s0)])) (fun _ k => XS.lload X7.here hx rfl (hb hby at_95) rfl k) ?_
        refine own_step (f' := (mkF m 99 #[.val (.long q1), .second, .val (.long q2), .second, .val (.long q3), .second, .val (.long q4), .second, .val (.long q5), .second, .val (.int i6), .val (.long ((1 : Int64) + ((q1 &&& (2147483647 : Int64)) % (100 : Int64)))), .second, .val (.long v17_2_s0), .second, .val (.long (own_ini q2)), .second, .val (.long v51_6_s0), .second, .val (.long (own_most (own_ini q2) q3)), .second, .unset, .unset, .unset, .unset, .unset, .unset] [(.long q5), (.long v51_6_s0)])) (fun _ k => XS.lload X7.here hx rfl (hb hby at_97) rfl k) ?_
        have hp1009_hq : 100 ≤ v51_6_s0.toInt ∧ v51_6_s0.toInt ≤ 3155760000000 := hi2
        have Zq1009 : n0 ≤ h0.size := Z0
        obtain ⟨_, _, ⟨T1009, L1009, k1009, n1009⟩, -, X1009, ⟨Lc1009, hQ1009, l1009, y1009, z1009⟩, st1009⟩ := Jvm.LawKit.callS X7 hx (y := (⟨"com/example/kookaburra/kookaburra/core/RetryPolicyEqualsPinLaw", "most", "(JJ)J"⟩ : MethodName)) hown (mvT hZ (hw _ (List.mem_of_getElem? (i := 8) rfl))) (mvT hZ (hw _ (List.mem_of_getElem? (i := 9) rfl))) (mvT hZ (hw _ (List.mem_of_getElem? (i := 4) rfl))) (mvT hZ (hw _ (List.mem_of_getElem? (i := 10) rfl))) (by decide) (backOf (W := 0) (rm2 l Z a0 hw [] v51_6_s0 q5 h0 n0 Zq1009 hp1009_hq) hZ (hw _ (List.mem_of_getElem? (i := 10) rfl)) (hw _ (List.mem_of_getElem? (i := 4) rfl)) (by decide) (by decide)) (g := (mkF m 99 #[.val (.long q1), .second, .val (.long q2), .second, .val (.long q3), .second, .val (.long q4), .second, .val (.long q5), .second, .val (.int i6), .val (.long ((1 : Int64) + ((q1 &&& (2147483647 : Int64)) % (100 : Int64)))), .second, .val (.long v17_2_s0), .second, .val (.long (own_ini q2)), .second, .val (.long v51_6_s0), .second, .val (.long (own_most (own_ini q2) q3)), .second, .unset, .unset, .unset, .unset, .unset, .unset] [(.long q5), (.long v51_6_s0)])) rfl (by rw [hml]; rfl) (argsL := [(.long v51_6_s0), (.long q5)]) (rest := []) (lenOf pd_3 rfl) rfl (by show 2 * 0 + _ ≤ _; exact Nat.le_of_eq rfl) (hb hby at_99) (fun _ _ => ⟨rfl, e7, (by decide : 0 + 0 ≤ _), (by decide : 0 + 0 ≤ _)⟩)
        dsimp only [Pt.U, Pt.locs, Pt.cells, Pt.slots] at X1009 l1009 y1009 z1009 st1009 hQ1009
        subst l1009 y1009 z1009
        obtain ⟨rfl, rfl, e1009⟩ := hQ1009
        try rw [List.append_nil] at X1009
        refine own_step (f' := (mkF m 102 #[.val (.long q1), .second, .val (.long q2), .second, .val (.long q3), .second, .val (.long q4), .second, .val (.long q5), .second, .val (.int i6), .val (.long ((1 : Int64) + ((q1 &&& (2147483647 : Int64)) % (100 : Int64)))), .second, .val (.long v17_2_s0), .second, .val (.long (own_ini q2)), .second, .val (.long v51_6_s0), .second, .val (.long (own_most (own_ini q2) q3)), .second, .unset, .unset, .unset, .unset, .unset, .unset] [(.long (own_most v51_6_s0 q5))])) st1009 ?_
        exact J79_12 _ (own_most v51_6_s0 q5) X1009 e1009 (by rw [if_pos hc79_8])
      · refine own_step (f' := (mkF m 82 #[.val (.long q1), .second, .val (.long q2), .second, .val (.long q3), .second, .val (.long q4), .second, .val (.long q5), .second, .val (.int i6), .val (.long ((1 : Int64) + ((q1 &&& (2147483647 : Int64)) % (100 : Int64)))), .second, .val (.long v17_2_s0), .second, .val (.long (own_ini q2)), .second, .val (.long v51_6_s0), .second, .val (.long (own_most (own_ini q2) q3)), .second, .unset, .unset, .unset, .unset, .unset, .unset] [])) (fun _ k => XS.ifNo X7.here hx rfl (hb hby at_79) rfl ((if0 _ _).trans (feq hc79_8).1) k) ?_
        refine own_step (f' := (mkF m 84 #[.val (.long q1), .second, .val (.long q2), .second, .val (.long q3), .second, .val (.long q4), .second, .val (.long q5), .second, .val (.int i6), .val (.long ((1 : Int64) + ((q1 &&& (2147483647 : Int64)) % (100 : Int64)))), .second, .val (.long v17_2_s0), .second, .val (.long (own_ini q2)), .second, .val (.long v51_6_s0), .second, .val (.long (own_most (own_ini q2) q3)), .second, .unset, .unset, .unset, .unset, .unset, .unset] [(.long (own_most (own_ini q2) q3))])) (fun _ k => XS.lload X7.here hx rfl (hb hby at_82) rfl k) ?_
        refine own_step (f' := (mkF m 86 #[.val (.long q1), .second, .val (.long q2), .second, .val (.long q3), .second, .val (.long q4), .second, .val (.long q5), .second, .val (.int i6), .val (.long ((1 : Int64) + ((q1 &&& (2147483647 : Int64)) % (100 : Int64)))), .second, .val (.long v17_2_s0), .second, .val (.long (own_ini q2)), .second, .val (.long v51_6_s0), .second, .val (.long (own_most (own_ini q2) q3)), .second, .unset, .unset, .unset, .unset, .unset, .unset] [(.long v51_6_s0), (.long (own_most (own_ini q2) q3))])) (fun _ k => XS.lload X7.here hx rfl (hb hby at_84) rfl k) ?_
        refine own_step (f' := (mkF m 87 #[.val (.long q1), .second, .val (.long q2), .second, .val (.long q3), .second, .val (.long q4), .second, .val (.long q5), .second, .val (.int i6), .val (.long ((1 : Int64) + ((q1 &&& (2147483647 : Int64)) % (100 : Int64)))), .second, .val (.long v17_2_s0), .second, .val (.long (own_ini q2)), .second, .val (.long v51_6_s0), .second, .val (.long (own_most (own_ini q2) q3)), .second, .unset, .unset, .unset, .unset, .unset, .unset] [(.int (lcmpW (own_most (own_ini q2) q3) v51_6_s0))])) (fun _ k => XS.lcmp X7.here hx rfl (hb hby at_86) rfl k) ?_
        by_cases hc87_1010 : (own_most (own_ini q2) q3) < v51_6_s0
        · refine own_step (f' := (mkF m 95 #[.val (.long q1), .second, .val (.long q2), .second, .val (.long q3), .second, .val (.long q4), .second, .val (.long q5), .second, .val (.int i6), .val (.long ((1 : Int64) + ((q1 &&& (2147483647 : Int64)) % (100 : Int64)))), .second, .val (.long v17_2_s0), .second, .val (.long (own_ini q2)), .second, .val (.long v51_6_s0), .second, .val (.long (own_most (own_ini q2) q3)), .second, .unset, .unset, .unset, .unset, .unset, .unset] [])) (fun _ k => XS.ifYes X7.here hx rfl (pc0 := 87) (pc' := 95) rfl (hb hby at_87) rfl ((if0 _ _).trans (tlt ((lw_lt _ _).mpr hc87_1010)).1) (by decide) (by decide) k) ?_
          refine own_step (f' := (mkF m 97 #[.val (.long q1), .second, .val (.long q2), .second, .val (.long q3), .second, .val (.long q4), .second, .val (.long q5), .second, .val (.int i6), .val (.long ((1 : Int64) + ((q1 &&& (2147483647 : Int64)) % (100 : Int64)))), .second, .val (.long v17_2_s0), .second, .val (.long (own_ini q2)), .second, .val (.long v51_6_s0), .second, .val (.long (own_most (own_ini q2) q3)), .second, .unset, .unset, .unset, .unset, .unset, .unset] [(.long v51_6_s0)])) (fun _ k => XS.lload X7.here hx rfl (hb hby at_95) rfl k) ?_
          refine own_step (f' := (mkF m 99 #[.val (.long q1), .second, .val (.long q2), .second, .val (.long q3), .second, .val (.long q4), .second, .val (.long q5), .second, .val (.int i6), .val (.long ((1 : Int64) + ((q1 &&& (2147483647 : Int64)) % (100 : Int64)))), .second, .val (.long v17_2_s0), .second, .val (.long (own_ini q2)), .second, .val (.long v51_6_s0), .second, .val (.long (own_most (own_ini q2) q3)), .second, .unset, .unset, .unset, .unset, .unset, .unset] [(.long q5), (.long v51_6_s0)])) (fun _ k => XS.lload X7.here hx rfl (hb hby at_97) rfl k) ?_
          have hp1011_hq : 100 ≤ v51_6_s0.toInt ∧ v51_6_s0.toInt ≤ 3155760000000 := hi2
          have Zq1011 : n0 ≤ h0.size := Z0
          obtain ⟨_, _, ⟨T1011, L1011, k1011, n1011⟩, -, X1011, ⟨Lc1011, hQ1011, l1011, y1011, z1011⟩, st1011⟩ := Jvm.LawKit.callS X7 hx (y := (⟨"com/example/kookaburra/kookaburra/core/RetryPolicyEqualsPinLaw", "most", "(JJ)J"⟩ : MethodName)) hown (mvT hZ (hw _ (List.mem_of_getElem? (i := 8) rfl))) (mvT hZ (hw _ (List.mem_of_getElem? (i := 9) rfl))) (mvT hZ (hw _ (List.mem_of_getElem? (i := 4) rfl))) (mvT hZ (hw _ (List.mem_of_getElem? (i := 10) rfl))) (by decide) (backOf (W := 0) (rm2 l Z a0 hw [] v51_6_s0 q5 h0 n0 Zq1011 hp1011_hq) hZ (hw _ (List.mem_of_getElem? (i := 10) rfl)) (hw _ (List.mem_of_getElem? (i := 4) rfl)) (by decide) (by decide)) (g := (mkF m 99 #[.val (.long q1), .second, .val (.long q2), .second, .val (.long q3), .second, .val (.long q4), .second, .val (.long q5), .second, .val (.int i6), .val (.long ((1 : Int64) + ((q1 &&& (2147483647 : Int64)) % (100 : Int64)))), .second, .val (.long v17_2_s0), .second, .val (.long (own_ini q2)), .second, .val (.long v51_6_s0), .second, .val (.long (own_most (own_ini q2) q3)), .second, .unset, .unset, .unset, .unset, .unset, .unset] [(.long q5), (.long v51_6_s0)])) rfl (by rw [hml]; rfl) (argsL := [(.long v51_6_s0), (.long q5)]) (rest := []) (lenOf pd_3 rfl) rfl (by show 2 * 0 + _ ≤ _; exact Nat.le_of_eq rfl) (hb hby at_99) (fun _ _ => ⟨rfl, e7, (by decide : 0 + 0 ≤ _), (by decide : 0 + 0 ≤ _)⟩)
          dsimp only [Pt.U, Pt.locs, Pt.cells, Pt.slots] at X1011 l1011 y1011 z1011 st1011 hQ1011
          subst l1011 y1011 z1011
          obtain ⟨rfl, rfl, e1011⟩ := hQ1011
          try rw [List.append_nil] at X1011
          refine own_step (f' := (mkF m 102 #[.val (.long q1), .second, .val (.long q2), .second, .val (.long q3), .second, .val (.long q4), .second, .val (.long q5), .second, .val (.int i6), .val (.long ((1 : Int64) + ((q1 &&& (2147483647 : Int64)) % (100 : Int64)))), .second, .val (.long v17_2_s0), .second, .val (.long (own_ini q2)), .second, .val (.long v51_6_s0), .second, .val (.long (own_most (own_ini q2) q3)), .second, .unset, .unset, .unset, .unset, .unset, .unset] [(.long (own_most v51_6_s0 q5))])) st1011 ?_
          exact J79_12 _ (own_most v51_6_s0 q5) X1011 e1011 (by rw [if_neg hc79_8, if_pos hc87_1010])
        · refine own_step (f' := (mkF m 90 #[.val (.long q1), .second, .val (.long q2), .second, .val (.long q3), .second, .val (.long q4), .second, .val (.long q5), .second, .val (.int i6), .val (.long ((1 : Int64) + ((q1 &&& (2147483647 : Int64)) % (100 : Int64)))), .second, .val (.long v17_2_s0), .second, .val (.long (own_ini q2)), .second, .val (.long v51_6_s0), .second, .val (.long (own_most (own_ini q2) q3)), .second, .unset, .unset, .unset, .unset, .unset, .unset] [])) (fun _ k => XS.ifNo X7.here hx rfl (hb hby at_87) rfl ((if0 _ _).trans (flt (fun q => hc87_1010 ((lw_lt _ _).mp q))).1) k) ?_
          refine own_step (f' := (mkF m 92 #[.val (.long q1), .second, .val (.long q2), .second, .val (.long q3), .second, .val (.long q4), .second, .val (.long q5), .second, .val (.int i6), .val (.long ((1 : Int64) + ((q1 &&& (2147483647 : Int64)) % (100 : Int64)))), .second, .val (.long v17_2_s0), .second, .val (.long (own_ini q2)), .second, .val (.long v51_6_s0), .second, .val (.long (own_most (own_ini q2) q3)), .second, .unset, .unset, .unset, .unset, .unset, .unset] [(.long (own_most (own_ini q2) q3))])) (fun _ k => XS.lload X7.here hx rfl (hb hby at_90) rfl k) ?_
          refine own_step (f' := (mkF m 102 #[.val (.long q1), .second, .val (.long q2), .second, .val (.long q3), .second, .val (.long q4), .second, .val (.long q5), .second, .val (.int i6), .val (.long ((1 : Int64) + ((q1 &&& (2147483647 : Int64)) % (100 : Int64)))), .second, .val (.long v17_2_s0), .second, .val (.long (own_ini q2)), .second, .val (.long v51_6_s0), .second, .val (.long (own_most (own_ini q2) q3)), .second, .unset, .unset, .unset, .unset, .unset, .unset] [(.long (own_most (own_ini q2) q3))])) (fun _ k => XS.goto X7.here hx rfl (pc0 := 92) (pc' := 102) rfl (hb hby at_92) (by decide) (by decide) k) ?_
          exact J79_12 _ (own_most (own_ini q2) q3) X7 e7 (by rw [if_neg hc79_8, if_neg hc87_1010])
    by_cases hc51_4 : (i6 &&& (2 : Int32)) = (0 : Int32)
    · refine own_step (f' := (mkF m 59 #[.val (.long q1), .second, .val (.long q2), .second, .val (.long q3), .second, .val (.long q4), .second, .val (.long q5), .second, .val (.int i6), .val (.long ((1 : Int64) + ((q1 &&& (2147483647 : Int64)) % (100 : Int64)))), .second, .val (.long v17_2_s0), .second, .val (.long (own_ini q2)), .second, .unset, .unset, .unset, .unset, .unset, .unset, .unset, .unset, .unset, .unset] [])) (fun _ k => XS.ifYes X3.here hx rfl (pc0 := 51) (pc' := 59) rfl (hb hby at_51) rfl ((if0 _ _).trans (teq hc51_4).1) (by decide) (by decide) k) ?_
      refine own_step (f' := (mkF m 61 #[.val (.long q1), .second, .val (.long q2), .second, .val (.long q3), .second, .val (.long q4), .second, .val (.long q5), .second, .val (.int i6), .val (.long ((1 : Int64) + ((q1 &&& (2147483647 : Int64)) % (100 : Int64)))), .second, .val (.long v17_2_s0), .second, .val (.long (own_ini q2)), .second, .unset, .unset, .unset, .unset, .unset, .unset, .unset, .unset, .unset, .unset] [(.long q4)])) (fun _ k => XS.lload X3.here hx rfl (hb hby at_59) rfl k) ?_
      have Zq1005 : n0 ≤ h0.size := Z0
      obtain ⟨_, _, ⟨T1005, L1005, k1005, n1005⟩, -, X1005, ⟨Lc1005, hQ1005, l1005, y1005, z1005⟩, st1005⟩ := Jvm.LawKit.callS X3 hx (y := (⟨"com/example/kookaburra/kookaburra/core/RetryPolicyEqualsPinLaw", "initial", "(J)J"⟩ : MethodName)) hown (mvT hZ (hw _ (List.mem_of_getElem? (i := 2) rfl))) (mvT hZ (hw _ (List.mem_of_getElem? (i := 3) rfl))) (mvT hZ (hw _ (List.mem_of_getElem? (i := 4) rfl))) (mvT hZ (hw _ (List.mem_of_getElem? (i := 5) rfl))) (by decide) (backOf (W := 0) (rm1 l Z a0 hw [] q4 h0 n0 Zq1005 ) hZ (hw _ (List.mem_of_getElem? (i := 5) rfl)) (hw _ (List.mem_of_getElem? (i := 4) rfl)) (by decide) (by decide)) (g := (mkF m 61 #[.val (.long q1), .second, .val (.long q2), .second, .val (.long q3), .second, .val (.long q4), .second, .val (.long q5), .second, .val (.int i6), .val (.long ((1 : Int64) + ((q1 &&& (2147483647 : Int64)) % (100 : Int64)))), .second, .val (.long v17_2_s0), .second, .val (.long (own_ini q2)), .second, .unset, .unset, .unset, .unset, .unset, .unset, .unset, .unset, .unset, .unset] [(.long q4)])) rfl (by rw [hml]; rfl) (argsL := [(.long q4)]) (rest := []) (lenOf pd_2 rfl) rfl (by show 2 * 0 + _ ≤ _; exact Nat.le_of_eq rfl) (hb hby at_61) (fun _ _ => ⟨rfl, e3, (by decide : 0 + 0 ≤ _), (by decide : 0 + 0 ≤ _)⟩)
      dsimp only [Pt.U, Pt.locs, Pt.cells, Pt.slots] at X1005 l1005 y1005 z1005 st1005 hQ1005
      subst l1005 y1005 z1005
      obtain ⟨rfl, rfl, e1005⟩ := hQ1005
      try rw [List.append_nil] at X1005
      refine own_step (f' := (mkF m 64 #[.val (.long q1), .second, .val (.long q2), .second, .val (.long q3), .second, .val (.long q4), .second, .val (.long q5), .second, .val (.int i6), .val (.long ((1 : Int64) + ((q1 &&& (2147483647 : Int64)) % (100 : Int64)))), .second, .val (.long v17_2_s0), .second, .val (.long (own_ini q2)), .second, .unset, .unset, .unset, .unset, .unset, .unset, .unset, .unset, .unset, .unset] [(.long (own_ini q4))])) st1005 ?_
      exact J51_6 _ (own_ini q4) X1005 e1005 (by rw [if_pos hc51_4])
    · refine own_step (f' := (mkF m 54 #[.val (.long q1), .second, .val (.long q2), .second, .val (.long q3), .second, .val (.long q4), .second, .val (.long q5), .second, .val (.int i6), .val (.long ((1 : Int64) + ((q1 &&& (2147483647 : Int64)) % (100 : Int64)))), .second, .val (.long v17_2_s0), .second, .val (.long (own_ini q2)), .second, .unset, .unset, .unset, .unset, .unset, .unset, .unset, .unset, .unset, .unset] [])) (fun _ k => XS.ifNo X3.here hx rfl (hb hby at_51) rfl ((if0 _ _).trans (feq hc51_4).1) k) ?_
      refine own_step (f' := (mkF m 56 #[.val (.long q1), .second, .val (.long q2), .second, .val (.long q3), .second, .val (.long q4), .second, .val (.long q5), .second, .val (.int i6), .val (.long ((1 : Int64) + ((q1 &&& (2147483647 : Int64)) % (100 : Int64)))), .second, .val (.long v17_2_s0), .second, .val (.long (own_ini q2)), .second, .unset, .unset, .unset, .unset, .unset, .unset, .unset, .unset, .unset, .unset] [(.long (own_ini q2))])) (fun _ k => XS.lload X3.here hx rfl (hb hby at_54) rfl k) ?_
      refine own_step (f' := (mkF m 64 #[.val (.long q1), .second, .val (.long q2), .second, .val (.long q3), .second, .val (.long q4), .second, .val (.long q5), .second, .val (.int i6), .val (.long ((1 : Int64) + ((q1 &&& (2147483647 : Int64)) % (100 : Int64)))), .second, .val (.long v17_2_s0), .second, .val (.long (own_ini q2)), .second, .unset, .unset, .unset, .unset, .unset, .unset, .unset, .unset, .unset, .unset] [(.long (own_ini q2))])) (fun _ k => XS.goto X3.here hx rfl (pc0 := 56) (pc' := 64) rfl (hb hby at_56) (by decide) (by decide) k) ?_
      exact J51_6 _ (own_ini q2) X3 e3 (by rw [if_neg hc51_4])
  by_cases hc17_1 : (i6 &&& (1 : Int32)) = (0 : Int32)
  · refine own_step (f' := (mkF m 25 #[.val (.long q1), .second, .val (.long q2), .second, .val (.long q3), .second, .val (.long q4), .second, .val (.long q5), .second, .val (.int i6), .val (.long ((1 : Int64) + ((q1 &&& (2147483647 : Int64)) % (100 : Int64)))), .second, .unset, .unset, .unset, .unset, .unset, .unset, .unset, .unset, .unset, .unset, .unset, .unset, .unset, .unset] [])) (fun _ k => XS.ifYes X0.here hx rfl (pc0 := 17) (pc' := 25) rfl (hb hby at_17) rfl ((if0 _ _).trans (teq hc17_1).1) (by decide) (by decide) k) ?_
    refine own_step (f' := (mkF m 26 #[.val (.long q1), .second, .val (.long q2), .second, .val (.long q3), .second, .val (.long q4), .second, .val (.long q5), .second, .val (.int i6), .val (.long ((1 : Int64) + ((q1 &&& (2147483647 : Int64)) % (100 : Int64)))), .second, .unset, .unset, .unset, .unset, .unset, .unset, .unset, .unset, .unset, .unset, .unset, .unset, .unset, .unset] [(.long (1 : Int64))])) (fun _ k => XS.lconst X0.here hx rfl (hb hby at_25) k) ?_
    refine own_step (f' := (mkF m 27 #[.val (.long q1), .second, .val (.long q2), .second, .val (.long q3), .second, .val (.long q4), .second, .val (.long q5), .second, .val (.int i6), .val (.long ((1 : Int64) + ((q1 &&& (2147483647 : Int64)) % (100 : Int64)))), .second, .unset, .unset, .unset, .unset, .unset, .unset, .unset, .unset, .unset, .unset, .unset, .unset, .unset, .unset] [(.long q1), (.long (1 : Int64))])) (fun _ k => XS.lloadN X0.here hx rfl (hb hby at_26) rfl k) ?_
    refine own_step (f' := (mkF m 29 #[.val (.long q1), .second, .val (.long q2), .second, .val (.long q3), .second, .val (.long q4), .second, .val (.long q5), .second, .val (.int i6), .val (.long ((1 : Int64) + ((q1 &&& (2147483647 : Int64)) % (100 : Int64)))), .second, .unset, .unset, .unset, .unset, .unset, .unset, .unset, .unset, .unset, .unset, .unset, .unset, .unset, .unset] [(.int (32 : Int32)), (.long q1), (.long (1 : Int64))])) (fun _ k => XS.bipush X0.here hx rfl (hb hby at_27) k) ?_
    refine own_step (f' := (mkF m 30 #[.val (.long q1), .second, .val (.long q2), .second, .val (.long q3), .second, .val (.long q4), .second, .val (.long q5), .second, .val (.int i6), .val (.long ((1 : Int64) + ((q1 &&& (2147483647 : Int64)) % (100 : Int64)))), .second, .unset, .unset, .unset, .unset, .unset, .unset, .unset, .unset, .unset, .unset, .unset, .unset, .unset, .unset] [(.long ((q1.toUInt64 >>> ((32 : Int32) &&& 0x3f).toInt64.toUInt64).toInt64)), (.long (1 : Int64))])) (fun _ k => XS.lushr X0.here hx rfl (hb hby at_29) rfl k) ?_
    refine own_step (f' := (mkF m 33 #[.val (.long q1), .second, .val (.long q2), .second, .val (.long q3), .second, .val (.long q4), .second, .val (.long q5), .second, .val (.int i6), .val (.long ((1 : Int64) + ((q1 &&& (2147483647 : Int64)) % (100 : Int64)))), .second, .unset, .unset, .unset, .unset, .unset, .unset, .unset, .unset, .unset, .unset, .unset, .unset, .unset, .unset] [(.long (2147483647 : Int64)), (.long ((q1.toUInt64 >>> ((32 : Int32) &&& 0x3f).toInt64.toUInt64).toInt64)), (.long (1 : Int64))])) (fun _ k => X0.ldc2Long hx hown (mvT hZ (hw _ (List.mem_of_getElem? (i := 0) rfl))) (g := (mkF m 30 #[.val (.long q1), .second, .val (.long q2), .second, .val (.long q3), .second, .val (.long q4), .second, .val (.long q5), .second, .val (.int i6), .val (.long ((1 : Int64) + ((q1 &&& (2147483647 : Int64)) % (100 : Int64)))), .second, .unset, .unset, .unset, .unset, .unset, .unset, .unset, .unset, .unset, .unset, .unset, .unset, .unset, .unset] [(.long ((q1.toUInt64 >>> ((32 : Int32) &&& 0x3f).toInt64.toUInt64).toInt64)), (.long (1 : Int64))])) rfl (hb hby at_30) _ k) ?_
    refine own_step (f' := (mkF m 34 #[.val (.long q1), .second, .val (.long q2), .second, .val (.long q3), .second, .val (.long q4), .second, .val (.long q5), .second, .val (.int i6), .val (.long ((1 : Int64) + ((q1 &&& (2147483647 : Int64)) % (100 : Int64)))), .second, .unset, .unset, .unset, .unset, .unset, .unset, .unset, .unset, .unset, .unset, .unset, .unset, .unset, .unset] [(.long (((q1.toUInt64 >>> ((32 : Int32) &&& 0x3f).toInt64.toUInt64).toInt64) &&& (2147483647 : Int64))), (.long (1 : Int64))])) (fun _ k => XS.land X0.here hx rfl (hb hby at_33) rfl k) ?_
    refine own_step (f' := (mkF m 37 #[.val (.long q1), .second, .val (.long q2), .second, .val (.long q3), .second, .val (.long q4), .second, .val (.long q5), .second, .val (.int i6), .val (.long ((1 : Int64) + ((q1 &&& (2147483647 : Int64)) % (100 : Int64)))), .second, .unset, .unset, .unset, .unset, .unset, .unset, .unset, .unset, .unset, .unset, .unset, .unset, .unset, .unset] [(.long (100 : Int64)), (.long (((q1.toUInt64 >>> ((32 : Int32) &&& 0x3f).toInt64.toUInt64).toInt64) &&& (2147483647 : Int64))), (.long (1 : Int64))])) (fun _ k => X0.ldc2Long hx hown (mvT hZ (hw _ (List.mem_of_getElem? (i := 1) rfl))) (g := (mkF m 34 #[.val (.long q1), .second, .val (.long q2), .second, .val (.long q3), .second, .val (.long q4), .second, .val (.long q5), .second, .val (.int i6), .val (.long ((1 : Int64) + ((q1 &&& (2147483647 : Int64)) % (100 : Int64)))), .second, .unset, .unset, .unset, .unset, .unset, .unset, .unset, .unset, .unset, .unset, .unset, .unset, .unset, .unset] [(.long (((q1.toUInt64 >>> ((32 : Int32) &&& 0x3f).toInt64.toUInt64).toInt64) &&& (2147483647 : Int64))), (.long (1 : Int64))])) rfl (hb hby at_34) _ k) ?_
    refine own_step (f' := (mkF m 38 #[.val (.long q1), .second, .val (.long q2), .second, .val (.long q3), .second, .val (.long q4), .second, .val (.long q5), .second, .val (.int i6), .val (.long ((1 : Int64) + ((q1 &&& (2147483647 : Int64)) % (100 : Int64)))), .second, .unset, .unset, .unset, .unset, .unset, .unset, .unset, .unset, .unset, .unset, .unset, .unset, .unset, .unset] [(.long ((((q1.toUInt64 >>> ((32 : Int32) &&& 0x3f).toInt64.toUInt64).toInt64) &&& (2147483647 : Int64)) % (100 : Int64))), (.long (1 : Int64))])) (fun _ k => XS.lrem X0.here hx rfl (hb hby at_37) rfl (by decide) (by rw [lrem_mod]; exact k)) ?_
    refine own_step (f' := (mkF m 39 #[.val (.long q1), .second, .val (.long q2), .second, .val (.long q3), .second, .val (.long q4), .second, .val (.long q5), .second, .val (.int i6), .val (.long ((1 : Int64) + ((q1 &&& (2147483647 : Int64)) % (100 : Int64)))), .second, .unset, .unset, .unset, .unset, .unset, .unset, .unset, .unset, .unset, .unset, .unset, .unset, .unset, .unset] [(.long ((1 : Int64) + ((((q1.toUInt64 >>> ((32 : Int32) &&& 0x3f).toInt64.toUInt64).toInt64) &&& (2147483647 : Int64)) % (100 : Int64))))])) (fun _ k => XS.ladd X0.here hx rfl (hb hby at_38) rfl k) ?_
    exact J17_2 _ ((1 : Int64) + ((((q1.toUInt64 >>> ((32 : Int32) &&& 0x3f).toInt64.toUInt64).toInt64) &&& (2147483647 : Int64)) % (100 : Int64))) X0 e0 (by rw [if_pos hc17_1])
  · refine own_step (f' := (mkF m 20 #[.val (.long q1), .second, .val (.long q2), .second, .val (.long q3), .second, .val (.long q4), .second, .val (.long q5), .second, .val (.int i6), .val (.long ((1 : Int64) + ((q1 &&& (2147483647 : Int64)) % (100 : Int64)))), .second, .unset, .unset, .unset, .unset, .unset, .unset, .unset, .unset, .unset, .unset, .unset, .unset, .unset, .unset] [])) (fun _ k => XS.ifNo X0.here hx rfl (hb hby at_17) rfl ((if0 _ _).trans (feq hc17_1).1) k) ?_
    refine own_step (f' := (mkF m 22 #[.val (.long q1), .second, .val (.long q2), .second, .val (.long q3), .second, .val (.long q4), .second, .val (.long q5), .second, .val (.int i6), .val (.long ((1 : Int64) + ((q1 &&& (2147483647 : Int64)) % (100 : Int64)))), .second, .unset, .unset, .unset, .unset, .unset, .unset, .unset, .unset, .unset, .unset, .unset, .unset, .unset, .unset] [(.long ((1 : Int64) + ((q1 &&& (2147483647 : Int64)) % (100 : Int64))))])) (fun _ k => XS.lload X0.here hx rfl (hb hby at_20) rfl k) ?_
    refine own_step (f' := (mkF m 39 #[.val (.long q1), .second, .val (.long q2), .second, .val (.long q3), .second, .val (.long q4), .second, .val (.long q5), .second, .val (.int i6), .val (.long ((1 : Int64) + ((q1 &&& (2147483647 : Int64)) % (100 : Int64)))), .second, .unset, .unset, .unset, .unset, .unset, .unset, .unset, .unset, .unset, .unset, .unset, .unset, .unset, .unset] [(.long ((1 : Int64) + ((q1 &&& (2147483647 : Int64)) % (100 : Int64))))])) (fun _ k => XS.goto X0.here hx rfl (pc0 := 22) (pc' := 39) rfl (hb hby at_22) (by decide) (by decide) k) ?_
    exact J17_2 _ ((1 : Int64) + ((q1 &&& (2147483647 : Int64)) % (100 : Int64))) X0 e0 (by rw [if_neg hc17_1])
theorem own_eqInt {t : Term} {n : Int32} {args : Array Value} {s : State} (h : (Jvm.Cond.eq t (.int n)).value args s none s [] = some true) : t.eval args s none [] s = some (.int n) := by
  simp only [Cond.value] at h
  have hn : (Term.int n).eval args s none [] s = some (.int n) := rfl
  rw [hn] at h
  cases hv : t.eval args s none [] s with
  | none => simp [hv] at h
  | some v =>
    cases v with
    | int x => simp [hv] at h; rw [h]
    | _ => simp [hv] at h
theorem own_len {args : Array Value} {s : State} {a : Addr} {cl : Cell} {t : Term} {n : Int32} (ht : t.eval args s none [] s = some (.ref a)) (hc : s.arrayAt? a = some cl) (h : (Term.length t).eval args s none [] s = some (.int n)) : cl.slots.size < 2 ^ 31 ∧ cl.slots.size.toInt32 = n := by
  by_cases q : cl.slots.size < 2 ^ 31
  · rw [len_f ht hc q] at h
    exact ⟨q, Value.int.inj (Option.some.inj h)⟩
  · simp [Term.eval, ht, hc, q] at h
set_option maxRecDepth 65536 in
set_option maxHeartbeats 40000000 in
theorem comes_1 {Post : Tables → Env → Array Value → State → Outcome → State → Prop} (hpost : ∀ tb e args s v u, (limb_1_1.after args s (.returned v) u = true ∧ limb_1_2.after args s (.returned v) u = true ∧ True) → FrameEnd s (.returned v) u (Jvm.fieldLocs frame_1_writes args s ++ Jvm.arrayLocs frame_1_arrays args s ++ Jvm.staticLocs frame_1_statics s) 16 128 → Post tb e args s (.returned v) u) :
    ArmFor flags0 classFile x code maxLocals ret World_1 tables_1 room_1 Calls_1 rest_1 Pre_1 Post := by
  intro l hfl _ _ p e ha hc hk s m args below hf hA hF happ hP
  obtain ⟨hcalls, hrest, hpre⟩ := hP
  obtain ⟨-, -, -, hnamed, -, -, -, hat⟩ := (Spec.applies_iff hf).mp happ
  obtain ⟨hg, hn⟩ := and_e (Cond.before_iff.mp (show (Jvm.Cond.and given_1 narrow_1).before args s = true from hpre))
  obtain ⟨gq1, gq2⟩ := and_e hg
  obtain ⟨gq3, gq4⟩ := and_e gq2
  obtain ⟨gq5, gq6⟩ := and_e gq4
  obtain ⟨gq7, gq8⟩ := and_e gq6
  obtain ⟨gq9, gq10⟩ := and_e gq8
  obtain ⟨gq11, gq12⟩ := and_e gq10
  obtain ⟨w0, w1, w2, w3, w4, w5, rfl⟩ : ∃ w0 w1 w2 w3 w4 w5 : Value, args = #[w0, w1, w2, w3, w4, w5] := by
    have hs : args.size = 6 := by simpa [Cond.value, given_1] using gq1
    obtain ⟨L⟩ := args
    match L, hs with
    | [w0, w1, w2, w3, w4, w5], _ => exact ⟨w0, w1, w2, w3, w4, w5, rfl⟩
  have hw := fun d (hd : d ∈ tables_1) => atoms_spec (ws := Jvm.Cond.code x code maxLocals ret :: tables_1) hat d (List.mem_cons_of_mem _ hd)
  have hfit : Fit s := fun {y c} hc i hi => by
    obtain ⟨ha, rfl⟩ := Array.getElem?_eq_some_iff.mp hc
    have q := List.all_eq_true.mp ((Array.all_eq_true_iff_forall_mem.mp hF) _ (Array.getElem_mem ha)) i (List.mem_range.mpr hi)
    simpa [Array.getElem?_eq_getElem hi] using q
  obtain ⟨hsets, hown0⟩ := atoms_of _ (rest_1_c_eq ▸ (show rest_1_c.before _ s = true from hrest))
  have hr0 := Cond.before_iff.mp hown0
  obtain ⟨i0, ei0⟩ := isL_v gq3
  obtain rfl : w0 = (.long i0) := Option.some.inj ei0
  obtain ⟨i1, ei1⟩ := isL_v gq5
  obtain rfl : w1 = (.long i1) := Option.some.inj ei1
  obtain ⟨i2, ei2⟩ := isL_v gq7
  obtain rfl : w2 = (.long i2) := Option.some.inj ei2
  obtain ⟨i3, ei3⟩ := isL_v gq9
  obtain rfl : w3 = (.long i3) := Option.some.inj ei3
  obtain ⟨i4, ei4⟩ := isL_v gq11
  obtain rfl : w4 = (.long i4) := Option.some.inj ei4
  obtain ⟨i5, ei5⟩ := is_v gq12
  obtain rfl : w5 = (.int i5) := Option.some.inj ei5
  have q2 := Cond.before_iff.mp (hsets _ (List.mem_of_getElem? (i := 2) rfl))
  obtain ⟨w1, hw1⟩ := arr_v q2
  have ht : ∀ idx, (Jvm.Term.static "java/lang/Long$LongCache" "cache" "[Ljava/lang/Long;").eval #[(.long i0), (.long i1), (.long i2), (.long i3), (.long i4), (.int i5)] s none idx s = some (.ref w1) := fun idx => hw1
  have S1 : Sta s s.heap "java/lang/Long$LongCache" "cache" "[Ljava/lang/Long;" (.ref w1) := Sta.start hw1 (Or.inr ⟨(hw _ (List.mem_of_getElem? (i := 36) rfl)), hsets _ (List.mem_of_getElem? (i := 0) rfl)⟩)
  obtain ⟨cl, A1⟩ := Arr.start hw1 q2
  have harr := A1.fin (Vm.Alike.refl _)
  have hlen := own_eqInt (Cond.before_iff.mp (hsets _ (List.mem_of_getElem? (i := 4) rfl)))
  obtain ⟨hq31, hsz0⟩ := own_len hw1 harr hlen
  have hsz : cl.slots.size = 256 := by have := len_toInt hq31; rw [hsz0] at this; have e : (256 : Int32).toInt = 256 := (by decide); omega
  have hall := Cond.before_iff.mp (hsets _ (List.mem_of_getElem? (i := 5) rfl))
  have hbox : ∀ j : Int32, ¬ (j < 0 ∨ cl.slots.size ≤ j.toNatClampNeg) → ∃ b : Addr, cl.slots[j.toNatClampNeg]? = some (.ref b) ∧ Exa s s.heap b "java/lang/Long" := fun j hj => by
    have nn : ¬ j < 0 := fun x => hj (Or.inl x)
    obtain ⟨u1, u2⟩ := and_e (Cond.all_elim (ht []) harr hall j.toNatClampNeg (Nat.lt_of_not_le fun x => hj (Or.inr x)))
    obtain ⟨box, eb⟩ := exa_v u1
    exact ⟨box, (elem_f (ht _) (idx_at nn) harr nn).symm.trans eb, exa_at eb u1⟩
  obtain ⟨n, o, h1, h2, h3, _, L, rfl, ⟨rfl, N⟩, hq⟩ := rm0 l s _ hw tables_1 i0 i1 i2 i3 i4 i5 w1 cl s.heap s.heap.size (Nat.le_refl _) S1 A1 hsz hbox (Old.start s) p e ha hc hk s m _ below hf ((Spec.applies_iff_loose hf).mp happ).1 ⟨rfl, State.Warmed39.refl s, rfl⟩ trivial
  refine ⟨n, _, h1, h2, h3, hpost _ _ _ _ _ _ ⟨Cond.after_iff.mpr rfl, Cond.after_iff.mpr (eq_i res_at (Term.int_eval (1)) rfl), trivial⟩ ⟨hq.1, hq.2.1, (hq.2.2.sift fun y hy => Or.inr (N y hy)).mono (by decide) (by decide)⟩⟩
theorem main_1_1 : Claimed_1_1 := comes_1 fun _ _ _ _ _ _ h hF => ⟨h.1, hF⟩
theorem main_1_2 : Claimed_1_2 := comes_1 fun _ _ _ _ _ _ h hF => ⟨h.2.1, hF⟩
end Jvm.Pilot.@@N@@
namespace Jvm.Pilot.@@N@@
open Jvm Jvm.ClassFile Sem Op Lib Jvm.Free Jvm.Stand Jvm.Pilot.@@N@@.Jvm.D
/-! MADE BY PROGRAM (witnessworld.py) out of the Statement's table words and the real class files: 16 classes; the members and pool entries that the words name. The judged class is class 1, her method 3. -/
namespace start1
open Jvm.ClassFile
def u (s : String) : CpInfo := .utf8 (stringToUtf16 s)
/-- a pool by its gaps: so many unusable entries, then the entry; so many at the end -/
def gap : Nat → List CpInfo → List CpInfo
  | 0, r => r
  | n + 1, r => .unusable :: gap n r
def poolList (es : List (Nat × CpInfo)) (last : Nat) : List CpInfo := es.foldr (fun e r => gap e.1 (e.2 :: r)) (gap last [])
def pool (es : List (Nat × CpInfo)) (last : Nat) : Array CpInfo := ⟨poolList es last⟩
def fileOf (pool : Array CpInfo) (this : Nat) (attrs : Array Attribute := #[]) (ms : Array MethodInfo := #[]) (fl : Nat := 33) (sup : Nat := 0) (ifs : Array Nat := #[]) (fds : Array FieldInfo := #[]) : ClassFile where
  minorVersion := 0
  majorVersion := 65
  constantPool := pool
  accessFlags := fl
  thisClass := this
  superClass := sup
  interfaces := ifs
  fields := fds
  methods := ms
  attributes := attrs
def plain (name : String) (sup : Option ClassId) : Class where
  name := name
  kind := .ordinary
  loader := none
  accessFlags := 33
  super := sup
  interfaces := #[]
  cf := none
  fields := #[]
  methods := #[]
  instanceTypes := #[]
  staticTypes := #[]
  resolved := #[]
  callSites := []
  init := .initialized
  statics := none
  mirror := none

def pool0 : Array CpInfo := pool [(5, u "<init>"), (0, u "()V"), (1, .class_ 10), (1, u "java/lang/Object")] 113

def k0c0 : Code := { maxStack := 0, maxLocals := 1, code := object_method_1_code, exceptionTable := #[], attributes := #[] }
def k0m0 : Method := { name := "<init>", desc := "()V", sig := { parameters := [], returnType := none }, accessFlags := 1, code := some k0c0 }
/-- java/lang/Object -/
def k0 : Class := { plain "java/lang/Object" none with
  accessFlags := 33
  interfaces := #[]
  cf := some (fileOf pool0 8 #[] #[{ accessFlags := 1, nameIndex := 5, descriptorIndex := 6, attributes := #[] }] 33 0 #[] #[])
  fields := #[]
  methods := #[k0m0]
  instanceTypes := #[]
  staticTypes := #[]
  resolved := Array.replicate 124 none
  statics := none }

def pool1 : Array CpInfo := pool [(2, .class_ 4), (1, u "java/lang/Object"), (0, u "<init>"), (0, u "()V"), (0, .long 100), (1, .class_ 10), (0, u "java/lang/Long"), (0, .long 9223372036854775807), (1, .long 3155759999901), (1, .long 3155760000000), (1, .long 2147483647), (1, .methodref 20 21), (0, .class_ 22), (0, .nameAndType 23 24), (0, u "com/example/kookaburra/kookaburra/core/RetryPolicyEqualsPinLaw"), (0, u "initial"), (0, u "(J)J"), (0, .methodref 20 26), (0, .nameAndType 27 28), (0, u "most"), (0, u "(JJ)J"), (0, .class_ 30), (0, u "com/example/kookaburra/kookaburra/core/RetryPolicy"), (0, .methodref 29 32), (0, .nameAndType 5 33), (0, u "(JJJ)V"), (0, .methodref 9 35), (0, .nameAndType 36 37), (0, u "valueOf"), (0, u "(J)Ljava/lang/Long;"), (0, .methodref 29 39), (0, .nameAndType 40 41), (0, u "equals"), (0, u "(Ljava/lang/Object;)Z"), (2, u "law"), (0, u "(JJJJJI)Z")] 3

def k1m0 : Method := { name := "<init>", desc := "()V", sig := { parameters := [], returnType := none }, accessFlags := 1, code := none }
def k1c1 : Code := { maxStack := 6, maxLocals := 2, code := method_2_code, exceptionTable := #[], attributes := #[] }
def k1m1 : Method := { name := "initial", desc := "(J)J", sig := { parameters := [.long], returnType := some .long }, accessFlags := 10, code := some k1c1 }
def k1c2 : Code := { maxStack := 8, maxLocals := 4, code := method_3_code, exceptionTable := #[], attributes := #[] }
def k1m2 : Method := { name := "most", desc := "(JJ)J", sig := { parameters := [.long, .long], returnType := some .long }, accessFlags := 10, code := some k1c2 }
def k1c3 : Code := { maxStack := 8, maxLocals := 27, code := code, exceptionTable := #[], attributes := #[] }
def k1m3 : Method := { name := "law", desc := "(JJJJJI)Z", sig := { parameters := [.long, .long, .long, .long, .long, .int], returnType := some .boolean }, accessFlags := 9, code := some k1c3 }
/-- com/example/kookaburra/kookaburra/core/RetryPolicyEqualsPinLaw -/
def k1 : Class := { plain "com/example/kookaburra/kookaburra/core/RetryPolicyEqualsPinLaw" (some 0) with
  accessFlags := 49
  interfaces := #[]
  cf := some (fileOf pool1 20 #[] #[{ accessFlags := 1, nameIndex := 5, descriptorIndex := 6, attributes := #[] }, { accessFlags := 10, nameIndex := 23, descriptorIndex := 24, attributes := #[] }, { accessFlags := 10, nameIndex := 27, descriptorIndex := 28, attributes := #[] }, { accessFlags := 9, nameIndex := 44, descriptorIndex := 45, attributes := #[] }] 49 2 #[] #[])
  fields := #[]
  methods := #[k1m0, k1m1, k1m2, k1m3]
  instanceTypes := #[]
  staticTypes := #[]
  resolved := Array.replicate 49 none
  statics := none }

def pool2 : Array CpInfo := pool [(3, .methodref 4 5), (0, .class_ 6), (0, .nameAndType 7 8), (0, u "java/lang/Object"), (0, u "<init>"), (0, u "()V"), (0, .class_ 10), (0, u "com/example/kookaburra/kookaburra/core/RetryPolicy"), (0, .long 100), (10, .long 3155760000000), (5, .fieldref 9 29), (0, .nameAndType 30 31), (0, u "maxAttempts"), (0, u "I"), (0, .fieldref 9 33), (0, .nameAndType 34 35), (0, u "initialBackoffMillis"), (0, u "J"), (0, .fieldref 9 37), (0, .nameAndType 38 35), (0, u "maxBackoffMillis"), (8, u "(JJJ)V"), (44, u "MAX_ATTEMPTS_LIMIT"), (2, u "MIN_INITIAL_BACKOFF_MILLIS"), (0, u "BACKOFF_LIMIT_MILLIS"), (0, u "DEFAULT_MAX_ATTEMPTS"), (1, u "DEFAULT_INITIAL_BACKOFF_MILLIS"), (0, u "DEFAULT_MAX_BACKOFF_MILLIS"), (14, u "equals"), (0, u "(Ljava/lang/Object;)Z")] 26

def k2c0 : Code := { maxStack := 6, maxLocals := 7, code := prog_17_method_1_code, exceptionTable := #[], attributes := #[] }
def k2m0 : Method := { name := "<init>", desc := "(JJJ)V", sig := { parameters := [.long, .long, .long], returnType := none }, accessFlags := 1, code := some k2c0 }
def k2c1 : Code := { maxStack := 4, maxLocals := 3, code := prog_17_method_9_code, exceptionTable := #[], attributes := #[] }
def k2m1 : Method := { name := "equals", desc := "(Ljava/lang/Object;)Z", sig := { parameters := [(.object "java/lang/Object")], returnType := some .boolean }, accessFlags := 1, code := some k2c1 }
/-- com/example/kookaburra/kookaburra/core/RetryPolicy -/
def k2 : Class := { plain "com/example/kookaburra/kookaburra/core/RetryPolicy" (some 0) with
  accessFlags := 49
  interfaces := #[]
  cf := some (fileOf pool2 9 #[] #[{ accessFlags := 1, nameIndex := 7, descriptorIndex := 47, attributes := #[] }, { accessFlags := 1, nameIndex := 115, descriptorIndex := 116, attributes := #[] }] 49 4 #[] #[{ accessFlags := 25, nameIndex := 92, descriptorIndex := 31, attributes := #[] }, { accessFlags := 25, nameIndex := 95, descriptorIndex := 35, attributes := #[] }, { accessFlags := 25, nameIndex := 96, descriptorIndex := 35, attributes := #[] }, { accessFlags := 25, nameIndex := 97, descriptorIndex := 31, attributes := #[] }, { accessFlags := 25, nameIndex := 99, descriptorIndex := 35, attributes := #[] }, { accessFlags := 25, nameIndex := 100, descriptorIndex := 35, attributes := #[] }, { accessFlags := 18, nameIndex := 30, descriptorIndex := 31, attributes := #[] }, { accessFlags := 18, nameIndex := 34, descriptorIndex := 35, attributes := #[] }, { accessFlags := 18, nameIndex := 38, descriptorIndex := 35, attributes := #[] }])
  fields := #[{ name := "MAX_ATTEMPTS_LIMIT", type := .int, accessFlags := 25, slot := 0, constantValue := 0 }, { name := "MIN_INITIAL_BACKOFF_MILLIS", type := .long, accessFlags := 25, slot := 1, constantValue := 0 }, { name := "BACKOFF_LIMIT_MILLIS", type := .long, accessFlags := 25, slot := 2, constantValue := 0 }, { name := "DEFAULT_MAX_ATTEMPTS", type := .int, accessFlags := 25, slot := 3, constantValue := 0 }, { name := "DEFAULT_INITIAL_BACKOFF_MILLIS", type := .long, accessFlags := 25, slot := 4, constantValue := 0 }, { name := "DEFAULT_MAX_BACKOFF_MILLIS", type := .long, accessFlags := 25, slot := 5, constantValue := 0 }, { name := "maxAttempts", type := .int, accessFlags := 18, slot := 0, constantValue := 0 }, { name := "initialBackoffMillis", type := .long, accessFlags := 18, slot := 1, constantValue := 0 }, { name := "maxBackoffMillis", type := .long, accessFlags := 18, slot := 2, constantValue := 0 }]
  methods := #[k2m0, k2m1]
  instanceTypes := #[.int, .long, .long]
  staticTypes := #[.int, .long, .long, .int, .long, .long]
  resolved := Array.replicate 143 none
  statics := none }

def pool3 : Array CpInfo := pool [(1, .class_ 2), (0, u "java/io/Serializable"), (0, .class_ 4), (0, u "java/lang/Object")] 2

/-- java/io/Serializable -/
def k3 : Class := { plain "java/io/Serializable" (some 0) with
  accessFlags := 1537
  interfaces := #[]
  cf := some (fileOf pool3 1 #[] #[] 1537 3 #[] #[])
  fields := #[]
  methods := #[]
  instanceTypes := #[]
  staticTypes := #[]
  resolved := Array.replicate 7 none
  statics := none }

def pool4 : Array CpInfo := pool [(1, .methodref 2 3), (0, .class_ 4), (0, .nameAndType 5 6), (0, u "java/lang/Object"), (0, u "<init>"), (0, u "()V"), (1, .class_ 10), (1, u "java/lang/Number"), (2, .class_ 14), (0, u "java/io/Serializable"), (0, u "serialVersionUID"), (0, u "J")] 20

def k4c0 : Code := { maxStack := 1, maxLocals := 1, code := jdk_18_method_1_code, exceptionTable := #[], attributes := #[] }
def k4m0 : Method := { name := "<init>", desc := "()V", sig := { parameters := [], returnType := none }, accessFlags := 1, code := some k4c0 }
/-- java/lang/Number -/
def k4 : Class := { plain "java/lang/Number" (some 0) with
  accessFlags := 1057
  interfaces := #[3]
  cf := some (fileOf pool4 8 #[] #[{ accessFlags := 1, nameIndex := 5, descriptorIndex := 6, attributes := #[] }] 1057 2 #[13] #[{ accessFlags := 26, nameIndex := 15, descriptorIndex := 16, attributes := #[] }])
  fields := #[{ name := "serialVersionUID", type := .long, accessFlags := 26, slot := 0, constantValue := 0 }]
  methods := #[k4m0]
  instanceTypes := #[]
  staticTypes := #[.long]
  resolved := Array.replicate 37 none
  statics := none }

def pool5 : Array CpInfo := pool [(1, .class_ 2), (0, u "java/lang/Comparable"), (0, .class_ 4), (0, u "java/lang/Object")] 7

/-- java/lang/Comparable -/
def k5 : Class := { plain "java/lang/Comparable" (some 0) with
  accessFlags := 1537
  interfaces := #[]
  cf := some (fileOf pool5 1 #[] #[] 1537 3 #[] #[])
  fields := #[]
  methods := #[]
  instanceTypes := #[]
  staticTypes := #[]
  resolved := Array.replicate 12 none
  statics := none }

def pool6 : Array CpInfo := pool [(1, .class_ 2), (0, u "java/lang/constant/Constable"), (0, .class_ 4), (0, u "java/lang/Object")] 6

/-- java/lang/constant/Constable -/
def k6 : Class := { plain "java/lang/constant/Constable" (some 0) with
  accessFlags := 1537
  interfaces := #[]
  cf := some (fileOf pool6 1 #[] #[] 1537 3 #[] #[])
  fields := #[]
  methods := #[]
  instanceTypes := #[]
  staticTypes := #[]
  resolved := Array.replicate 11 none
  statics := none }

def pool7 : Array CpInfo := pool [(1, .class_ 2), (0, u "java/lang/constant/ConstantDesc"), (0, .class_ 4), (0, u "java/lang/Object")] 32

/-- java/lang/constant/ConstantDesc -/
def k7 : Class := { plain "java/lang/constant/ConstantDesc" (some 0) with
  accessFlags := 1537
  interfaces := #[]
  cf := some (fileOf pool7 1 #[] #[] 1537 3 #[] #[])
  fields := #[]
  methods := #[]
  instanceTypes := #[]
  staticTypes := #[]
  resolved := Array.replicate 37 none
  statics := none }

def pool8 : Array CpInfo := pool [(1, .class_ 2), (0, u "java/lang/Long"), (55, .nameAndType 59 60), (0, u "<init>"), (0, u "()V"), (24, u "valueOf"), (143, u "(J)Ljava/lang/Long;"), (0, .long 18446744073709551488), (1, .long 127), (1, .fieldref 235 236), (0, .class_ 237), (0, .nameAndType 238 239), (0, u "java/lang/Long$LongCache"), (0, u "cache"), (0, u "[Ljava/lang/Long;"), (0, .methodref 1 241), (0, .nameAndType 59 242), (0, u "(J)V"), (27, .methodref 271 58), (0, .class_ 272), (0, u "java/lang/Number"), (0, .fieldref 1 274), (0, .nameAndType 275 276), (0, u "value"), (0, u "J"), (84, u "TYPE"), (0, u "Ljava/lang/Class;"), (0, .class_ 364), (0, u "java/lang/Comparable"), (0, .class_ 366), (0, u "java/lang/constant/Constable"), (0, .class_ 368), (0, u "java/lang/constant/ConstantDesc"), (0, u "MIN_VALUE"), (1, u "MAX_VALUE"), (4, u "SIZE"), (0, u "I"), (1, u "BYTES"), (1, u "serialVersionUID")] 142

def k8c0 : Code := { maxStack := 4, maxLocals := 3, code := jdk_35_method_24_code, exceptionTable := #[], attributes := #[] }
def k8m0 : Method := { name := "valueOf", desc := "(J)Ljava/lang/Long;", sig := { parameters := [.long], returnType := some (.object "java/lang/Long") }, accessFlags := 9, code := some k8c0 }
def k8c1 : Code := { maxStack := 3, maxLocals := 3, code := jdk_35_method_26_code, exceptionTable := #[], attributes := #[] }
def k8m1 : Method := { name := "<init>", desc := "(J)V", sig := { parameters := [.long], returnType := none }, accessFlags := 1, code := some k8c1 }
/-- java/lang/Long -/
def k8 : Class := { plain "java/lang/Long" (some 4) with
  accessFlags := 49
  interfaces := #[5, 6, 7]
  cf := some (fileOf pool8 1 #[.nestMembers #[235]] #[{ accessFlags := 9, nameIndex := 85, descriptorIndex := 229, attributes := #[] }, { accessFlags := 1, nameIndex := 59, descriptorIndex := 242, attributes := #[] }] 49 271 #[363, 365, 367] #[{ accessFlags := 25, nameIndex := 369, descriptorIndex := 276, attributes := #[] }, { accessFlags := 25, nameIndex := 371, descriptorIndex := 276, attributes := #[] }, { accessFlags := 25, nameIndex := 361, descriptorIndex := 362, attributes := #[] }, { accessFlags := 18, nameIndex := 275, descriptorIndex := 276, attributes := #[] }, { accessFlags := 25, nameIndex := 376, descriptorIndex := 377, attributes := #[] }, { accessFlags := 25, nameIndex := 379, descriptorIndex := 377, attributes := #[] }, { accessFlags := 26, nameIndex := 381, descriptorIndex := 276, attributes := #[] }])
  fields := #[{ name := "MIN_VALUE", type := .long, accessFlags := 25, slot := 0, constantValue := 0 }, { name := "MAX_VALUE", type := .long, accessFlags := 25, slot := 1, constantValue := 0 }, { name := "TYPE", type := (.object "java/lang/Class"), accessFlags := 25, slot := 2, constantValue := 0 }, { name := "value", type := .long, accessFlags := 18, slot := 0, constantValue := 0 }, { name := "SIZE", type := .int, accessFlags := 25, slot := 3, constantValue := 0 }, { name := "BYTES", type := .int, accessFlags := 25, slot := 4, constantValue := 0 }, { name := "serialVersionUID", type := .long, accessFlags := 26, slot := 5, constantValue := 0 }]
  methods := #[k8m0, k8m1]
  instanceTypes := #[.long]
  staticTypes := #[.long, .long, (.object "java/lang/Class"), .int, .int, .long]
  resolved := Array.replicate 524 none
  statics := none }

def pool9 : Array CpInfo := pool [(2, .class_ 4), (1, u "java/lang/Object"), (0, u "<init>"), (0, u "()V"), (0, .class_ 8), (0, u "java/lang/Long"), (7, .class_ 18), (1, u "java/lang/Long$LongCache"), (0, u "$assertionsDisabled"), (0, u "Z"), (8, u "archivedCache"), (0, u "[Ljava/lang/Long;"), (7, u "cache")] 24

def k9m0 : Method := { name := "<init>", desc := "()V", sig := { parameters := [], returnType := none }, accessFlags := 2, code := none }
/-- java/lang/Long$LongCache -/
def k9 : Class := { plain "java/lang/Long$LongCache" (some 0) with
  accessFlags := 48
  interfaces := #[]
  cf := some (fileOf pool9 16 #[.nestHost 7] #[{ accessFlags := 2, nameIndex := 5, descriptorIndex := 6, attributes := #[] }] 48 2 #[] #[{ accessFlags := 24, nameIndex := 38, descriptorIndex := 30, attributes := #[] }, { accessFlags := 8, nameIndex := 29, descriptorIndex := 30, attributes := #[] }, { accessFlags := 4120, nameIndex := 19, descriptorIndex := 20, attributes := #[] }])
  fields := #[{ name := "cache", type := (.array (.object "java/lang/Long")), accessFlags := 24, slot := 0, constantValue := 0 }, { name := "archivedCache", type := (.array (.object "java/lang/Long")), accessFlags := 8, slot := 1, constantValue := 0 }, { name := "$assertionsDisabled", type := .boolean, accessFlags := 4120, slot := 2, constantValue := 0 }]
  methods := #[k9m0]
  instanceTypes := #[]
  staticTypes := #[(.array (.object "java/lang/Long")), (.array (.object "java/lang/Long")), .boolean]
  resolved := Array.replicate 63 none
  statics := some 0 }

def pool10 : Array CpInfo := pool [(1, u "java/lang/Cloneable"), (0, .class_ 1), (0, u "java/lang/Object"), (0, .class_ 3)] 3

/-- java/lang/Cloneable -/
def k10 : Class := { plain "java/lang/Cloneable" (some 0) with
  accessFlags := 1537
  interfaces := #[]
  cf := some (fileOf pool10 2 #[] #[] 1537 4 #[] #[])
  fields := #[]
  methods := #[]
  instanceTypes := #[]
  staticTypes := #[]
  resolved := Array.replicate 8 none
  statics := none }

/-- the primitive byte -/
def k11 : Class := { plain "byte" none with kind := .primitive 'B', accessFlags := 0x411 }
/-- [B -/
def k12 : Class := { plain "[B" (some 0) with kind := .array 11 .byte, interfaces := #[10, 3], accessFlags := 1041 }

/-- the primitive int -/
def k13 : Class := { plain "int" none with kind := .primitive 'I', accessFlags := 0x411 }
/-- [I -/
def k14 : Class := { plain "[I" (some 0) with kind := .array 13 .int, interfaces := #[10, 3], accessFlags := 1041 }

/-- [Ljava/lang/Long; -/
def k15 : Class := { plain "[Ljava/lang/Long;" (some 0) with kind := .array 8 (.object "java/lang/Long"), interfaces := #[10, 3], accessFlags := 1041 }

def heap : Heap := #[{ cls := 9, slots := #[.ref 1, .null, .int 0], vm := .statics 9 },
  { cls := 15, slots := #[.ref 2, .ref 3, .ref 4, .ref 5, .ref 6, .ref 7, .ref 8, .ref 9, .ref 10, .ref 11, .ref 12, .ref 13, .ref 14, .ref 15, .ref 16, .ref 17, .ref 18, .ref 19, .ref 20, .ref 21, .ref 22, .ref 23, .ref 24, .ref 25, .ref 26, .ref 27, .ref 28, .ref 29, .ref 30, .ref 31, .ref 32, .ref 33, .ref 34, .ref 35, .ref 36, .ref 37, .ref 38, .ref 39, .ref 40, .ref 41, .ref 42, .ref 43, .ref 44, .ref 45, .ref 46, .ref 47, .ref 48, .ref 49, .ref 50, .ref 51, .ref 52, .ref 53, .ref 54, .ref 55, .ref 56, .ref 57, .ref 58, .ref 59, .ref 60, .ref 61, .ref 62, .ref 63, .ref 64, .ref 65, .ref 66, .ref 67, .ref 68, .ref 69, .ref 70, .ref 71, .ref 72, .ref 73, .ref 74, .ref 75, .ref 76, .ref 77, .ref 78, .ref 79, .ref 80, .ref 81, .ref 82, .ref 83, .ref 84, .ref 85, .ref 86, .ref 87, .ref 88, .ref 89, .ref 90, .ref 91, .ref 92, .ref 93, .ref 94, .ref 95, .ref 96, .ref 97, .ref 98, .ref 99, .ref 100, .ref 101, .ref 102, .ref 103, .ref 104, .ref 105, .ref 106, .ref 107, .ref 108, .ref 109, .ref 110, .ref 111, .ref 112, .ref 113, .ref 114, .ref 115, .ref 116, .ref 117, .ref 118, .ref 119, .ref 120, .ref 121, .ref 122, .ref 123, .ref 124, .ref 125, .ref 126, .ref 127, .ref 128, .ref 129, .ref 130, .ref 131, .ref 132, .ref 133, .ref 134, .ref 135, .ref 136, .ref 137, .ref 138, .ref 139, .ref 140, .ref 141, .ref 142, .ref 143, .ref 144, .ref 145, .ref 146, .ref 147, .ref 148, .ref 149, .ref 150, .ref 151, .ref 152, .ref 153, .ref 154, .ref 155, .ref 156, .ref 157, .ref 158, .ref 159, .ref 160, .ref 161, .ref 162, .ref 163, .ref 164, .ref 165, .ref 166, .ref 167, .ref 168, .ref 169, .ref 170, .ref 171, .ref 172, .ref 173, .ref 174, .ref 175, .ref 176, .ref 177, .ref 178, .ref 179, .ref 180, .ref 181, .ref 182, .ref 183, .ref 184, .ref 185, .ref 186, .ref 187, .ref 188, .ref 189, .ref 190, .ref 191, .ref 192, .ref 193, .ref 194, .ref 195, .ref 196, .ref 197, .ref 198, .ref 199, .ref 200, .ref 201, .ref 202, .ref 203, .ref 204, .ref 205, .ref 206, .ref 207, .ref 208, .ref 209, .ref 210, .ref 211, .ref 212, .ref 213, .ref 214, .ref 215, .ref 216, .ref 217, .ref 218, .ref 219, .ref 220, .ref 221, .ref 222, .ref 223, .ref 224, .ref 225, .ref 226, .ref 227, .ref 228, .ref 229, .ref 230, .ref 231, .ref 232, .ref 233, .ref 234, .ref 235, .ref 236, .ref 237, .ref 238, .ref 239, .ref 240, .ref 241, .ref 242, .ref 243, .ref 244, .ref 245, .ref 246, .ref 247, .ref 248, .ref 249, .ref 250, .ref 251, .ref 252, .ref 253, .ref 254, .ref 255, .ref 256, .ref 257], vm := .none },
  { cls := 8, slots := #[.long (-128)], vm := .none },
  { cls := 8, slots := #[.long (-127)], vm := .none },
  { cls := 8, slots := #[.long (-126)], vm := .none },
  { cls := 8, slots := #[.long (-125)], vm := .none },
  { cls := 8, slots := #[.long (-124)], vm := .none },
  { cls := 8, slots := #[.long (-123)], vm := .none },
  { cls := 8, slots := #[.long (-122)], vm := .none },
  { cls := 8, slots := #[.long (-121)], vm := .none },
  { cls := 8, slots := #[.long (-120)], vm := .none },
  { cls := 8, slots := #[.long (-119)], vm := .none },
  { cls := 8, slots := #[.long (-118)], vm := .none },
  { cls := 8, slots := #[.long (-117)], vm := .none },
  { cls := 8, slots := #[.long (-116)], vm := .none },
  { cls := 8, slots := #[.long (-115)], vm := .none },
  { cls := 8, slots := #[.long (-114)], vm := .none },
  { cls := 8, slots := #[.long (-113)], vm := .none },
  { cls := 8, slots := #[.long (-112)], vm := .none },
  { cls := 8, slots := #[.long (-111)], vm := .none },
  { cls := 8, slots := #[.long (-110)], vm := .none },
  { cls := 8, slots := #[.long (-109)], vm := .none },
  { cls := 8, slots := #[.long (-108)], vm := .none },
  { cls := 8, slots := #[.long (-107)], vm := .none },
  { cls := 8, slots := #[.long (-106)], vm := .none },
  { cls := 8, slots := #[.long (-105)], vm := .none },
  { cls := 8, slots := #[.long (-104)], vm := .none },
  { cls := 8, slots := #[.long (-103)], vm := .none },
  { cls := 8, slots := #[.long (-102)], vm := .none },
  { cls := 8, slots := #[.long (-101)], vm := .none },
  { cls := 8, slots := #[.long (-100)], vm := .none },
  { cls := 8, slots := #[.long (-99)], vm := .none },
  { cls := 8, slots := #[.long (-98)], vm := .none },
  { cls := 8, slots := #[.long (-97)], vm := .none },
  { cls := 8, slots := #[.long (-96)], vm := .none },
  { cls := 8, slots := #[.long (-95)], vm := .none },
  { cls := 8, slots := #[.long (-94)], vm := .none },
  { cls := 8, slots := #[.long (-93)], vm := .none },
  { cls := 8, slots := #[.long (-92)], vm := .none },
  { cls := 8, slots := #[.long (-91)], vm := .none },
  { cls := 8, slots := #[.long (-90)], vm := .none },
  { cls := 8, slots := #[.long (-89)], vm := .none },
  { cls := 8, slots := #[.long (-88)], vm := .none },
  { cls := 8, slots := #[.long (-87)], vm := .none },
  { cls := 8, slots := #[.long (-86)], vm := .none },
  { cls := 8, slots := #[.long (-85)], vm := .none },
  { cls := 8, slots := #[.long (-84)], vm := .none },
  { cls := 8, slots := #[.long (-83)], vm := .none },
  { cls := 8, slots := #[.long (-82)], vm := .none },
  { cls := 8, slots := #[.long (-81)], vm := .none },
  { cls := 8, slots := #[.long (-80)], vm := .none },
  { cls := 8, slots := #[.long (-79)], vm := .none },
  { cls := 8, slots := #[.long (-78)], vm := .none },
  { cls := 8, slots := #[.long (-77)], vm := .none },
  { cls := 8, slots := #[.long (-76)], vm := .none },
  { cls := 8, slots := #[.long (-75)], vm := .none },
  { cls := 8, slots := #[.long (-74)], vm := .none },
  { cls := 8, slots := #[.long (-73)], vm := .none },
  { cls := 8, slots := #[.long (-72)], vm := .none },
  { cls := 8, slots := #[.long (-71)], vm := .none },
  { cls := 8, slots := #[.long (-70)], vm := .none },
  { cls := 8, slots := #[.long (-69)], vm := .none },
  { cls := 8, slots := #[.long (-68)], vm := .none },
  { cls := 8, slots := #[.long (-67)], vm := .none },
  { cls := 8, slots := #[.long (-66)], vm := .none },
  { cls := 8, slots := #[.long (-65)], vm := .none },
  { cls := 8, slots := #[.long (-64)], vm := .none },
  { cls := 8, slots := #[.long (-63)], vm := .none },
  { cls := 8, slots := #[.long (-62)], vm := .none },
  { cls := 8, slots := #[.long (-61)], vm := .none },
  { cls := 8, slots := #[.long (-60)], vm := .none },
  { cls := 8, slots := #[.long (-59)], vm := .none },
  { cls := 8, slots := #[.long (-58)], vm := .none },
  { cls := 8, slots := #[.long (-57)], vm := .none },
  { cls := 8, slots := #[.long (-56)], vm := .none },
  { cls := 8, slots := #[.long (-55)], vm := .none },
  { cls := 8, slots := #[.long (-54)], vm := .none },
  { cls := 8, slots := #[.long (-53)], vm := .none },
  { cls := 8, slots := #[.long (-52)], vm := .none },
  { cls := 8, slots := #[.long (-51)], vm := .none },
  { cls := 8, slots := #[.long (-50)], vm := .none },
  { cls := 8, slots := #[.long (-49)], vm := .none },
  { cls := 8, slots := #[.long (-48)], vm := .none },
  { cls := 8, slots := #[.long (-47)], vm := .none },
  { cls := 8, slots := #[.long (-46)], vm := .none },
  { cls := 8, slots := #[.long (-45)], vm := .none },
  { cls := 8, slots := #[.long (-44)], vm := .none },
  { cls := 8, slots := #[.long (-43)], vm := .none },
  { cls := 8, slots := #[.long (-42)], vm := .none },
  { cls := 8, slots := #[.long (-41)], vm := .none },
  { cls := 8, slots := #[.long (-40)], vm := .none },
  { cls := 8, slots := #[.long (-39)], vm := .none },
  { cls := 8, slots := #[.long (-38)], vm := .none },
  { cls := 8, slots := #[.long (-37)], vm := .none },
  { cls := 8, slots := #[.long (-36)], vm := .none },
  { cls := 8, slots := #[.long (-35)], vm := .none },
  { cls := 8, slots := #[.long (-34)], vm := .none },
  { cls := 8, slots := #[.long (-33)], vm := .none },
  { cls := 8, slots := #[.long (-32)], vm := .none },
  { cls := 8, slots := #[.long (-31)], vm := .none },
  { cls := 8, slots := #[.long (-30)], vm := .none },
  { cls := 8, slots := #[.long (-29)], vm := .none },
  { cls := 8, slots := #[.long (-28)], vm := .none },
  { cls := 8, slots := #[.long (-27)], vm := .none },
  { cls := 8, slots := #[.long (-26)], vm := .none },
  { cls := 8, slots := #[.long (-25)], vm := .none },
  { cls := 8, slots := #[.long (-24)], vm := .none },
  { cls := 8, slots := #[.long (-23)], vm := .none },
  { cls := 8, slots := #[.long (-22)], vm := .none },
  { cls := 8, slots := #[.long (-21)], vm := .none },
  { cls := 8, slots := #[.long (-20)], vm := .none },
  { cls := 8, slots := #[.long (-19)], vm := .none },
  { cls := 8, slots := #[.long (-18)], vm := .none },
  { cls := 8, slots := #[.long (-17)], vm := .none },
  { cls := 8, slots := #[.long (-16)], vm := .none },
  { cls := 8, slots := #[.long (-15)], vm := .none },
  { cls := 8, slots := #[.long (-14)], vm := .none },
  { cls := 8, slots := #[.long (-13)], vm := .none },
  { cls := 8, slots := #[.long (-12)], vm := .none },
  { cls := 8, slots := #[.long (-11)], vm := .none },
  { cls := 8, slots := #[.long (-10)], vm := .none },
  { cls := 8, slots := #[.long (-9)], vm := .none },
  { cls := 8, slots := #[.long (-8)], vm := .none },
  { cls := 8, slots := #[.long (-7)], vm := .none },
  { cls := 8, slots := #[.long (-6)], vm := .none },
  { cls := 8, slots := #[.long (-5)], vm := .none },
  { cls := 8, slots := #[.long (-4)], vm := .none },
  { cls := 8, slots := #[.long (-3)], vm := .none },
  { cls := 8, slots := #[.long (-2)], vm := .none },
  { cls := 8, slots := #[.long (-1)], vm := .none },
  { cls := 8, slots := #[.long (0)], vm := .none },
  { cls := 8, slots := #[.long (1)], vm := .none },
  { cls := 8, slots := #[.long (2)], vm := .none },
  { cls := 8, slots := #[.long (3)], vm := .none },
  { cls := 8, slots := #[.long (4)], vm := .none },
  { cls := 8, slots := #[.long (5)], vm := .none },
  { cls := 8, slots := #[.long (6)], vm := .none },
  { cls := 8, slots := #[.long (7)], vm := .none },
  { cls := 8, slots := #[.long (8)], vm := .none },
  { cls := 8, slots := #[.long (9)], vm := .none },
  { cls := 8, slots := #[.long (10)], vm := .none },
  { cls := 8, slots := #[.long (11)], vm := .none },
  { cls := 8, slots := #[.long (12)], vm := .none },
  { cls := 8, slots := #[.long (13)], vm := .none },
  { cls := 8, slots := #[.long (14)], vm := .none },
  { cls := 8, slots := #[.long (15)], vm := .none },
  { cls := 8, slots := #[.long (16)], vm := .none },
  { cls := 8, slots := #[.long (17)], vm := .none },
  { cls := 8, slots := #[.long (18)], vm := .none },
  { cls := 8, slots := #[.long (19)], vm := .none },
  { cls := 8, slots := #[.long (20)], vm := .none },
  { cls := 8, slots := #[.long (21)], vm := .none },
  { cls := 8, slots := #[.long (22)], vm := .none },
  { cls := 8, slots := #[.long (23)], vm := .none },
  { cls := 8, slots := #[.long (24)], vm := .none },
  { cls := 8, slots := #[.long (25)], vm := .none },
  { cls := 8, slots := #[.long (26)], vm := .none },
  { cls := 8, slots := #[.long (27)], vm := .none },
  { cls := 8, slots := #[.long (28)], vm := .none },
  { cls := 8, slots := #[.long (29)], vm := .none },
  { cls := 8, slots := #[.long (30)], vm := .none },
  { cls := 8, slots := #[.long (31)], vm := .none },
  { cls := 8, slots := #[.long (32)], vm := .none },
  { cls := 8, slots := #[.long (33)], vm := .none },
  { cls := 8, slots := #[.long (34)], vm := .none },
  { cls := 8, slots := #[.long (35)], vm := .none },
  { cls := 8, slots := #[.long (36)], vm := .none },
  { cls := 8, slots := #[.long (37)], vm := .none },
  { cls := 8, slots := #[.long (38)], vm := .none },
  { cls := 8, slots := #[.long (39)], vm := .none },
  { cls := 8, slots := #[.long (40)], vm := .none },
  { cls := 8, slots := #[.long (41)], vm := .none },
  { cls := 8, slots := #[.long (42)], vm := .none },
  { cls := 8, slots := #[.long (43)], vm := .none },
  { cls := 8, slots := #[.long (44)], vm := .none },
  { cls := 8, slots := #[.long (45)], vm := .none },
  { cls := 8, slots := #[.long (46)], vm := .none },
  { cls := 8, slots := #[.long (47)], vm := .none },
  { cls := 8, slots := #[.long (48)], vm := .none },
  { cls := 8, slots := #[.long (49)], vm := .none },
  { cls := 8, slots := #[.long (50)], vm := .none },
  { cls := 8, slots := #[.long (51)], vm := .none },
  { cls := 8, slots := #[.long (52)], vm := .none },
  { cls := 8, slots := #[.long (53)], vm := .none },
  { cls := 8, slots := #[.long (54)], vm := .none },
  { cls := 8, slots := #[.long (55)], vm := .none },
  { cls := 8, slots := #[.long (56)], vm := .none },
  { cls := 8, slots := #[.long (57)], vm := .none },
  { cls := 8, slots := #[.long (58)], vm := .none },
  { cls := 8, slots := #[.long (59)], vm := .none },
  { cls := 8, slots := #[.long (60)], vm := .none },
  { cls := 8, slots := #[.long (61)], vm := .none },
  { cls := 8, slots := #[.long (62)], vm := .none },
  { cls := 8, slots := #[.long (63)], vm := .none },
  { cls := 8, slots := #[.long (64)], vm := .none },
  { cls := 8, slots := #[.long (65)], vm := .none },
  { cls := 8, slots := #[.long (66)], vm := .none },
  { cls := 8, slots := #[.long (67)], vm := .none },
  { cls := 8, slots := #[.long (68)], vm := .none },
  { cls := 8, slots := #[.long (69)], vm := .none },
  { cls := 8, slots := #[.long (70)], vm := .none },
  { cls := 8, slots := #[.long (71)], vm := .none },
  { cls := 8, slots := #[.long (72)], vm := .none },
  { cls := 8, slots := #[.long (73)], vm := .none },
  { cls := 8, slots := #[.long (74)], vm := .none },
  { cls := 8, slots := #[.long (75)], vm := .none },
  { cls := 8, slots := #[.long (76)], vm := .none },
  { cls := 8, slots := #[.long (77)], vm := .none },
  { cls := 8, slots := #[.long (78)], vm := .none },
  { cls := 8, slots := #[.long (79)], vm := .none },
  { cls := 8, slots := #[.long (80)], vm := .none },
  { cls := 8, slots := #[.long (81)], vm := .none },
  { cls := 8, slots := #[.long (82)], vm := .none },
  { cls := 8, slots := #[.long (83)], vm := .none },
  { cls := 8, slots := #[.long (84)], vm := .none },
  { cls := 8, slots := #[.long (85)], vm := .none },
  { cls := 8, slots := #[.long (86)], vm := .none },
  { cls := 8, slots := #[.long (87)], vm := .none },
  { cls := 8, slots := #[.long (88)], vm := .none },
  { cls := 8, slots := #[.long (89)], vm := .none },
  { cls := 8, slots := #[.long (90)], vm := .none },
  { cls := 8, slots := #[.long (91)], vm := .none },
  { cls := 8, slots := #[.long (92)], vm := .none },
  { cls := 8, slots := #[.long (93)], vm := .none },
  { cls := 8, slots := #[.long (94)], vm := .none },
  { cls := 8, slots := #[.long (95)], vm := .none },
  { cls := 8, slots := #[.long (96)], vm := .none },
  { cls := 8, slots := #[.long (97)], vm := .none },
  { cls := 8, slots := #[.long (98)], vm := .none },
  { cls := 8, slots := #[.long (99)], vm := .none },
  { cls := 8, slots := #[.long (100)], vm := .none },
  { cls := 8, slots := #[.long (101)], vm := .none },
  { cls := 8, slots := #[.long (102)], vm := .none },
  { cls := 8, slots := #[.long (103)], vm := .none },
  { cls := 8, slots := #[.long (104)], vm := .none },
  { cls := 8, slots := #[.long (105)], vm := .none },
  { cls := 8, slots := #[.long (106)], vm := .none },
  { cls := 8, slots := #[.long (107)], vm := .none },
  { cls := 8, slots := #[.long (108)], vm := .none },
  { cls := 8, slots := #[.long (109)], vm := .none },
  { cls := 8, slots := #[.long (110)], vm := .none },
  { cls := 8, slots := #[.long (111)], vm := .none },
  { cls := 8, slots := #[.long (112)], vm := .none },
  { cls := 8, slots := #[.long (113)], vm := .none },
  { cls := 8, slots := #[.long (114)], vm := .none },
  { cls := 8, slots := #[.long (115)], vm := .none },
  { cls := 8, slots := #[.long (116)], vm := .none },
  { cls := 8, slots := #[.long (117)], vm := .none },
  { cls := 8, slots := #[.long (118)], vm := .none },
  { cls := 8, slots := #[.long (119)], vm := .none },
  { cls := 8, slots := #[.long (120)], vm := .none },
  { cls := 8, slots := #[.long (121)], vm := .none },
  { cls := 8, slots := #[.long (122)], vm := .none },
  { cls := 8, slots := #[.long (123)], vm := .none },
  { cls := 8, slots := #[.long (124)], vm := .none },
  { cls := 8, slots := #[.long (125)], vm := .none },
  { cls := 8, slots := #[.long (126)], vm := .none },
  { cls := 8, slots := #[.long (127)], vm := .none }]
def classes : Array Class := #[k0, k1, k2, k3, k4, k5, k6, k7, k8, k9, k10, k11, k12, k13, k14, k15]
def interned : List (Array UInt16 × Addr) := []
def slotsUsed : Nat := 515
def theMethod : MethodId := ⟨1, 3⟩
def args0 : Array Value := #[.long 5, .long 5, .long 5, .long 5, .long 5, .int 5]
def aboutOver (below : List Frame) : State where
  vm := { classes := classes, interned := interned.toArray }
  heap := heap
  slotsUsed := slotsUsed
  threads := #[{ frames := .invoking theMethod args0 :: below }]
def below0 : List Frame := [.native { method := ⟨0, 0⟩, args := #[] }]
def about1 : State := aboutOver below0
def p0 : Program := .bare "" "" ""
def e0 : Env := launch0.env 0 0 0
theorem w_frames : about1.frames = Frame.invoking theMethod args0 :: below0 := rfl
set_option maxRecDepth 65536 in
theorem w_args : argsFit about1.vm theMethod args0 = true := by decide +kernel
set_option maxRecDepth 65536 in
theorem w_heap : heapFits about1 = true := by decide +kernel
set_option maxRecDepth 65536 in
theorem w_runnable : about1.curStatus? = some .runnable := by decide +kernel
set_option maxRecDepth 65536 in
theorem w_alone : about1.alone = true := by decide +kernel
set_option maxRecDepth 65536 in
theorem w_named : about1.methodNamed? x = some theMethod := by decide +kernel
set_option maxRecDepth 65536 in
theorem w_hears : about1.hears theMethod below0 = true := by decide +kernel
set_option maxRecDepth 65536 in
theorem w_ripe : about1.ripe theMethod args0 below0 = true := by decide +kernel
theorem w_running : about1.status = .running := rfl
set_option maxRecDepth 65536 in
theorem w_room : about1.hasRoom e0.platform room_1 = true :=
  launch0.hasRoom_least _ room_1 (by decide +kernel) (by decide +kernel) (by decide +kernel) (by decide +kernel) (by decide +kernel) (by decide +kernel)
theorem allAtoms_all (ts : List Jvm.Cond) (a : Array Jvm.Value) (st : Jvm.State) : (allAtoms ts).before a st = ts.all (fun c => c.before a st) := by
  induction ts with
  | nil => rfl
  | cons c t ih =>
    show (Jvm.Cond.and c (allAtoms t)).before a st = _
    rw [Jvm.Cond.before_and, ih, List.all_cons]
def words1 : List Jvm.Cond := Jvm.Cond.code x code maxLocals ret :: tables_1
/-- a 'code' word, met by the world's own term for the bytes: nothing is compared byte by byte -/
theorem code_word {y : MethodName} {bytes : ByteArray} {mx : Nat} {rt : Option FieldType} {a : Array Value} {s : State} {m : MethodId} {meth : Method} {c : Code} (h1 : s.methodNamed? y = some m) (h2 : s.vm.method? m = some meth) (h3 : meth.code = some c) (h4 : c.code = bytes)
    (h5 : (c.maxLocals == mx && c.exceptionTable.isEmpty && decide (c.maxStack ≤ mostOperands) && decide (meth.sig.returnType = rt) && !meth.locks && decide (parseMethodDescriptor y.desc = some meth.sig)) = true) : (Jvm.Cond.code y bytes mx rt).before a s = true := by
  simp only [Bool.and_eq_true, beq_iff_eq, Bool.not_eq_true', decide_eq_true_eq] at h5
  obtain ⟨⟨⟨⟨⟨g1, g2⟩, g3⟩, g4⟩, g5⟩, g6⟩ := h5
  simp [Cond.before, Cond.holds, Cond.value, h1, h2, h3, h4, g1, g2, g3, g4, g5, g6]
def isCode : Jvm.Cond → Bool
  | .code _ _ _ _ => true
  | _ => false
theorem all_split {L : List Jvm.Cond} {P : Jvm.Cond → Bool} (h1 : L.all (fun c => isCode c || P c) = true) (h2 : ∀ c ∈ L.filter isCode, P c = true) : L.all P = true := by
  refine List.all_eq_true.mpr fun c hc => ?_
  have h := List.all_eq_true.mp h1 c hc
  rcases Bool.eq_false_or_eq_true (isCode c) with hi | hi
  · exact h2 c (List.mem_filter.mpr ⟨hc, hi⟩)
  · simpa [hi] using h
set_option maxRecDepth 65536 in
theorem w_c0 : (Jvm.Cond.code x code maxLocals ret).before args0 about1 = true := code_word (m := ⟨1, 3⟩) (meth := k1m3) (c := k1c3) (by decide +kernel) rfl rfl rfl (by decide +kernel)
set_option maxRecDepth 65536 in
theorem w_c1 : (Jvm.Cond.code ({ cls := "com/example/kookaburra/kookaburra/core/RetryPolicyEqualsPinLaw", name := "initial", desc := "(J)J" } : Jvm.MethodName) method_2_code (2 : Nat) (Option.some Jvm.ClassFile.FieldType.long)).before args0 about1 = true := code_word (m := ⟨1, 1⟩) (meth := k1m1) (c := k1c1) (by decide +kernel) rfl rfl rfl (by decide +kernel)
set_option maxRecDepth 65536 in
theorem w_c2 : (Jvm.Cond.code ({ cls := "com/example/kookaburra/kookaburra/core/RetryPolicyEqualsPinLaw", name := "most", desc := "(JJ)J" } : Jvm.MethodName) method_3_code (4 : Nat) (Option.some Jvm.ClassFile.FieldType.long)).before args0 about1 = true := code_word (m := ⟨1, 2⟩) (meth := k1m2) (c := k1c2) (by decide +kernel) rfl rfl rfl (by decide +kernel)
set_option maxRecDepth 65536 in
theorem w_c3 : (Jvm.Cond.code ({ cls := "com/example/kookaburra/kookaburra/core/RetryPolicy", name := "<init>", desc := "(JJJ)V" } : Jvm.MethodName) prog_17_method_1_code (7 : Nat) (Option.none : Option Jvm.ClassFile.FieldType)).before args0 about1 = true := code_word (m := ⟨2, 0⟩) (meth := k2m0) (c := k2c0) (by decide +kernel) rfl rfl rfl (by decide +kernel)
set_option maxRecDepth 65536 in
theorem w_c4 : (Jvm.Cond.code ({ cls := "java/lang/Object", name := "<init>", desc := "()V" } : Jvm.MethodName) object_method_1_code (1 : Nat) (Option.none : Option Jvm.ClassFile.FieldType)).before args0 about1 = true := code_word (m := ⟨0, 0⟩) (meth := k0m0) (c := k0c0) (by decide +kernel) rfl rfl rfl (by decide +kernel)
set_option maxRecDepth 65536 in
theorem w_c5 : (Jvm.Cond.code ({ cls := "java/lang/Long", name := "valueOf", desc := "(J)Ljava/lang/Long;" } : Jvm.MethodName) jdk_35_method_24_code (3 : Nat) (Option.some (Jvm.ClassFile.FieldType.object "java/lang/Long"))).before args0 about1 = true := code_word (m := ⟨8, 0⟩) (meth := k8m0) (c := k8c0) (by decide +kernel) rfl rfl rfl (by decide +kernel)
set_option maxRecDepth 65536 in
theorem w_c6 : (Jvm.Cond.code ({ cls := "com/example/kookaburra/kookaburra/core/RetryPolicy", name := "equals", desc := "(Ljava/lang/Object;)Z" } : Jvm.MethodName) prog_17_method_9_code (3 : Nat) (Option.some Jvm.ClassFile.FieldType.boolean)).before args0 about1 = true := code_word (m := ⟨2, 1⟩) (meth := k2m1) (c := k2c1) (by decide +kernel) rfl rfl rfl (by decide +kernel)
set_option maxRecDepth 65536 in
theorem w_c7 : (Jvm.Cond.code ({ cls := "java/lang/Long", name := "<init>", desc := "(J)V" } : Jvm.MethodName) jdk_35_method_26_code (3 : Nat) (Option.none : Option Jvm.ClassFile.FieldType)).before args0 about1 = true := code_word (m := ⟨8, 1⟩) (meth := k8m1) (c := k8c1) (by decide +kernel) rfl rfl rfl (by decide +kernel)
set_option maxRecDepth 65536 in
theorem w_c8 : (Jvm.Cond.code ({ cls := "java/lang/Number", name := "<init>", desc := "()V" } : Jvm.MethodName) jdk_18_method_1_code (1 : Nat) (Option.none : Option Jvm.ClassFile.FieldType)).before args0 about1 = true := code_word (m := ⟨4, 0⟩) (meth := k4m0) (c := k4c0) (by decide +kernel) rfl rfl rfl (by decide +kernel)
def codes1 : List Jvm.Cond := [Jvm.Cond.code x code maxLocals ret, Jvm.Cond.code ({ cls := "com/example/kookaburra/kookaburra/core/RetryPolicyEqualsPinLaw", name := "initial", desc := "(J)J" } : Jvm.MethodName) method_2_code (2 : Nat) (Option.some Jvm.ClassFile.FieldType.long), Jvm.Cond.code ({ cls := "com/example/kookaburra/kookaburra/core/RetryPolicyEqualsPinLaw", name := "most", desc := "(JJ)J" } : Jvm.MethodName) method_3_code (4 : Nat) (Option.some Jvm.ClassFile.FieldType.long), Jvm.Cond.code ({ cls := "com/example/kookaburra/kookaburra/core/RetryPolicy", name := "<init>", desc := "(JJJ)V" } : Jvm.MethodName) prog_17_method_1_code (7 : Nat) (Option.none : Option Jvm.ClassFile.FieldType), Jvm.Cond.code ({ cls := "java/lang/Object", name := "<init>", desc := "()V" } : Jvm.MethodName) object_method_1_code (1 : Nat) (Option.none : Option Jvm.ClassFile.FieldType), Jvm.Cond.code ({ cls := "java/lang/Long", name := "valueOf", desc := "(J)Ljava/lang/Long;" } : Jvm.MethodName) jdk_35_method_24_code (3 : Nat) (Option.some (Jvm.ClassFile.FieldType.object "java/lang/Long")), Jvm.Cond.code ({ cls := "com/example/kookaburra/kookaburra/core/RetryPolicy", name := "equals", desc := "(Ljava/lang/Object;)Z" } : Jvm.MethodName) prog_17_method_9_code (3 : Nat) (Option.some Jvm.ClassFile.FieldType.boolean), Jvm.Cond.code ({ cls := "java/lang/Long", name := "<init>", desc := "(J)V" } : Jvm.MethodName) jdk_35_method_26_code (3 : Nat) (Option.none : Option Jvm.ClassFile.FieldType), Jvm.Cond.code ({ cls := "java/lang/Number", name := "<init>", desc := "()V" } : Jvm.MethodName) jdk_18_method_1_code (1 : Nat) (Option.none : Option Jvm.ClassFile.FieldType)]
set_option maxRecDepth 65536 in
theorem codes_eq : words1.filter isCode = codes1 := rfl
theorem w_codes : ∀ c ∈ words1.filter isCode, c.before args0 about1 = true := by
  rw [codes_eq]
  intro c hc
  simp only [codes1, List.mem_cons, List.not_mem_nil, or_false] at hc
  rcases hc with rfl | rfl | rfl | rfl | rfl | rfl | rfl | rfl | rfl
  · exact w_c0
  · exact w_c1
  · exact w_c2
  · exact w_c3
  · exact w_c4
  · exact w_c5
  · exact w_c6
  · exact w_c7
  · exact w_c8
set_option maxRecDepth 65536 in
theorem w_t1 : (words1.take 24).all (fun c => isCode c || c.before args0 about1) = true := by decide +kernel
set_option maxRecDepth 65536 in
theorem w_t2 : ((words1.drop 24).take 24).all (fun c => isCode c || c.before args0 about1) = true := by decide +kernel
set_option maxRecDepth 65536 in
theorem w_t3 : ((words1.drop 24).drop 24).all (fun c => isCode c || c.before args0 about1) = true := by decide +kernel
theorem w_tables : (allAtoms (Jvm.Cond.code x code maxLocals ret :: tables_1)).before args0 about1 = true := by
  rw [allAtoms_all]
  show words1.all (fun c => c.before args0 about1) = true
  refine all_split ?_ w_codes
  rw [← List.take_append_drop 24 words1, List.all_append, w_t1, ← List.take_append_drop 24 (words1.drop 24), List.all_append, w_t2, w_t3]
  rfl
set_option maxRecDepth 65536 in
theorem w_rest : rest_1_c.before args0 about1 = true := by decide +kernel
set_option maxRecDepth 65536 in
theorem w_case : (Jvm.Cond.and given_1 narrow_1).before args0 about1 = true := by decide +kernel
theorem w_applies : (headSpec (Jvm.Cond.code x code maxLocals ret :: tables_1) room_1).applies x e0.platform about1 = true :=
  (Spec.applies_iff w_frames).mpr ⟨w_running, w_runnable, w_alone, w_named, w_hears, w_ripe, w_room, w_tables⟩
theorem atStart : AtStart classFile x code maxLocals ret World_1 tables_1 room_1 Calls_1 rest_1 Pre_1 launch0 p0 e0 about1 theMethod args0 below0 :=
  ⟨lists_1, trivial, launch0.admits_env _ _ _, launch0.least_env, fairChoices_fair.cas, fairChoices_fair.clock, w_frames, w_args, w_heap, w_applies, trivial, w_rest, w_case⟩
end start1
theorem witness_1 : WitnessClaimed_1 := ⟨start1.p0, start1.e0, start1.about1, start1.theMethod, start1.args0, start1.below0, start1.atStart⟩
end Jvm.Pilot.@@N@@
