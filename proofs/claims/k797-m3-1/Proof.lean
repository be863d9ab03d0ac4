import JvmDerived
import JvmDerived.Pilot.@@N@@Statement
import JvmDerived.Pilot.@@N@@Code
set_option linter.unusedVariables false
set_option linter.unusedSimpArgs false
namespace Jvm.Pilot.@@N@@
open Jvm Jvm.ClassFile Sem Op Lib Jvm.Free Jvm.Stand Jvm.LawKit Jvm.RoadKit Bundle Jvm.Pilot.@@N@@.Jvm.D
section Own
variable {p : Program} {l : Launch} {e : Env} {R : Room} {s : State} {m : MethodId} {args : Array Value} {below : List Frame} {meth : Method} {c : Code} {T T' : State} {locs : List Loc} {cells slots : Nat} {QQ : Option Value → Heap → List Loc → Prop} {kc ks : Nat} {f f' : JFrame}
/-- from here the run comes to the method's return, with what QQ says -/
def own_Goes (p : Program) (e : Env) (below : List Frame) (s : State) (QQ : Option Value → Heap → List Loc → Prop) (kc ks : Nat) (T : State) (f : JFrame) : Prop :=
  ∃ s₂ o, Steps p.tables e below (T.setTop f) s₂ ∧ s₂.status = .running ∧ Ended s₂ below o ∧ ∃ v L, o = .returned v ∧ QQ v s₂.heap L ∧ FrameEnd s o s₂ L kc ks
theorem own_step (st : ∀ target, Steps p.tables e below (T'.setTop f') target → Steps p.tables e below (T.setTop f) target) (h : own_Goes p e below s QQ kc ks T' f') : own_Goes p e below s QQ kc ks T f := by
  obtain ⟨s₂, o, h1, r⟩ := h
  exact ⟨s₂, o, st _ h1, r⟩
theorem own_jump (st : Steps p.tables e below (T.setTop f) (T'.setTop f')) (h : own_Goes p e below s QQ kc ks T' f') : own_Goes p e below s QQ kc ks T f := by
  obtain ⟨s₂, o, h1, r⟩ := h
  exact ⟨s₂, o, st.trans h1, r⟩
theorem own_out {v : Option Value} (X : Stand p l e R s m args below meth c T locs cells slots) (hlk : meth.locks = false) (hv : meth.sig.returnType = none → v = none)
    (st : ∀ fs, (∀ (f : JFrame) (acts : List Action), f.method = m → f.locked = none → f.entered = [] → (doReturn e (T.setTop f) acts v).1 = T.setFrames fs) → Steps p.tables e below (T.setTop f) (T.setFrames fs)) (hc : cells ≤ kc) (hs : slots ≤ ks) (hq : QQ v T.heap locs) : own_Goes p e below s QQ kc ks T f := by
  obtain ⟨fs, hr, hrun, hended, hW, hsame⟩ := X.leave (v := v) hv hlk
  exact ⟨_, _, st fs hr, hrun, hended, v, locs, rfl, hq, ⟨_, rfl⟩, hW, hsame.mono hc hs⟩
theorem own_staKeep {Z : State} {h h' : Heap} {C n d : String} {v : Value} {ws : List Addr} (F : Sta Z h C n d v) (K : Keep h h' ws) (q : ∀ x ∈ ws, ∃ cell : Cell, h[x]? = some cell ∧ cell.vm.isStatics = false) : Sta Z h' C n d v := by
  obtain ⟨cf, i, k, f, st, cell, h1, h2, h3, h4, h5, h6, h7⟩ := F
  refine ⟨cf, i, k, f, st, cell, h1, h2, h3, h4, K.2.1 st cell h5 (fun z => ?_), h6, h7⟩
  obtain ⟨c', g1, g2⟩ := q st z
  rw [h5] at g1
  cases g1
  rw [h6] at g2
  cases g2
theorem own_exaNS {Z : State} {h : Heap} {a : Addr} {C : String} (F : Exa Z h a C) : ∃ cell : Cell, h[a]? = some cell ∧ cell.vm.isStatics = false := by
  obtain ⟨cell, k, h1, -, -, h4, -⟩ := F
  exact ⟨cell, h1, h4⟩
end Own
theorem d1_0 : decode prog_17_method_1_code 0 = .ok (.aload_n 0, 1) := by decide +kernel
theorem d1_1 : decode prog_17_method_1_code 1 = .ok (.invokespecial 3, 3) := by decide +kernel
theorem d1_4 : decode prog_17_method_1_code 4 = .ok (.lload_n 1, 1) := by decide +kernel
theorem d1_5 : decode prog_17_method_1_code 5 = .ok (.lconst 1, 1) := by decide +kernel
theorem d1_6 : decode prog_17_method_1_code 6 = .ok (.lcmp, 1) := by decide +kernel
theorem d1_7 : decode prog_17_method_1_code 7 = .ok (.ifCond .lt 11, 3) := by decide +kernel
theorem d1_10 : decode prog_17_method_1_code 10 = .ok (.lload_n 1, 1) := by decide +kernel
theorem d1_11 : decode prog_17_method_1_code 11 = .ok (.ldc2_w 11, 3) := by decide +kernel
theorem d1_14 : decode prog_17_method_1_code 14 = .ok (.lcmp, 1) := by decide +kernel
theorem d1_15 : decode prog_17_method_1_code 15 = .ok (.ifCond .le 17, 3) := by decide +kernel
theorem d1_32 : decode prog_17_method_1_code 32 = .ok (.lload_n 3, 1) := by decide +kernel
theorem d1_33 : decode prog_17_method_1_code 33 = .ok (.ldc2_w 11, 3) := by decide +kernel
theorem d1_36 : decode prog_17_method_1_code 36 = .ok (.lcmp, 1) := by decide +kernel
theorem d1_37 : decode prog_17_method_1_code 37 = .ok (.ifCond .lt 11, 3) := by decide +kernel
theorem d1_40 : decode prog_17_method_1_code 40 = .ok (.lload_n 3, 1) := by decide +kernel
theorem d1_41 : decode prog_17_method_1_code 41 = .ok (.ldc2_w 22, 3) := by decide +kernel
theorem d1_44 : decode prog_17_method_1_code 44 = .ok (.lcmp, 1) := by decide +kernel
theorem d1_45 : decode prog_17_method_1_code 45 = .ok (.ifCond .le 17, 3) := by decide +kernel
theorem d1_62 : decode prog_17_method_1_code 62 = .ok (.lload 5, 2) := by decide +kernel
theorem d1_64 : decode prog_17_method_1_code 64 = .ok (.lload_n 3, 1) := by decide +kernel
theorem d1_65 : decode prog_17_method_1_code 65 = .ok (.lcmp, 1) := by decide +kernel
theorem d1_66 : decode prog_17_method_1_code 66 = .ok (.ifCond .lt 12, 3) := by decide +kernel
theorem d1_69 : decode prog_17_method_1_code 69 = .ok (.lload 5, 2) := by decide +kernel
theorem d1_71 : decode prog_17_method_1_code 71 = .ok (.ldc2_w 22, 3) := by decide +kernel
theorem d1_74 : decode prog_17_method_1_code 74 = .ok (.lcmp, 1) := by decide +kernel
theorem d1_75 : decode prog_17_method_1_code 75 = .ok (.ifCond .le 19, 3) := by decide +kernel
theorem d1_94 : decode prog_17_method_1_code 94 = .ok (.aload_n 0, 1) := by decide +kernel
theorem d1_95 : decode prog_17_method_1_code 95 = .ok (.lload_n 1, 1) := by decide +kernel
theorem d1_96 : decode prog_17_method_1_code 96 = .ok (.l2i, 1) := by decide +kernel
theorem d1_97 : decode prog_17_method_1_code 97 = .ok (.putfield 28, 3) := by decide +kernel
theorem d1_100 : decode prog_17_method_1_code 100 = .ok (.aload_n 0, 1) := by decide +kernel
theorem d1_101 : decode prog_17_method_1_code 101 = .ok (.lload_n 3, 1) := by decide +kernel
theorem d1_102 : decode prog_17_method_1_code 102 = .ok (.putfield 32, 3) := by decide +kernel
theorem d1_105 : decode prog_17_method_1_code 105 = .ok (.aload_n 0, 1) := by decide +kernel
theorem d1_106 : decode prog_17_method_1_code 106 = .ok (.lload 5, 2) := by decide +kernel
theorem d1_108 : decode prog_17_method_1_code 108 = .ok (.putfield 36, 3) := by decide +kernel
theorem d1_111 : decode prog_17_method_1_code 111 = .ok (.return_, 1) := by decide +kernel
theorem pn_0 : plainName "com/example/kookaburra/kookaburra/core/RetryPolicy" = true := by first | (simp [plainName, overriddenIn]; done) | decide +kernel
theorem ef_1 (m : MethodId) (x0 : Addr) (x1 : Int64) (x2 : Int64) (x3 : Int64) : entryFrame m #[(.ref x0), (.long x1), (.long x2), (.long x3)] 7 = mkF m 0 #[.val (.ref x0), .val (.long x1), .second, .val (.long x2), .second, .val (.long x3), .second] [] := by first | (simp [entryFrame, mkF, argsToLocals, Value.category]; done) | rfl
def Q1 (Z : State) (a1 : Addr) (q2 : Int64) (q3 : Int64) (q4 : Int64) (u1 : Value) (u2 : Value) (u3 : Value) (h0 : Heap) (n0 : Nat) (v : Option Value) (h : Heap) (L : List Loc) : Prop := v = none ∧ Fr n0 L ∧ Keep h0 h [a1] ∧ Exa Z h a1 "com/example/kookaburra/kookaburra/core/RetryPolicy" ∧ Fld Z h a1 "com/example/kookaburra/kookaburra/core/RetryPolicy" "maxAttempts" "I" (.int (q2.toInt32)) ∧ Fld Z h a1 "com/example/kookaburra/kookaburra/core/RetryPolicy" "initialBackoffMillis" "J" (.long q3) ∧ Fld Z h a1 "com/example/kookaburra/kookaburra/core/RetryPolicy" "maxBackoffMillis" "J" (.long q4)
abbrev R1 : Room := { frames := 1, cells := 0, slots := 0, locals := 12 }
set_option maxRecDepth 65536 in
set_option maxHeartbeats 40000000 in
theorem rm1 (l : Launch) (Z : State) (a0 : Array Value) (hw : ∀ d ∈ tables_1, d.before a0 Z = true) (ws : List Jvm.Cond) (a1 : Addr) (q2 : Int64) (q3 : Int64) (q4 : Int64) (u1 : Value) (u2 : Value) (u3 : Value) (h0 : Heap) (n0 : Nat) (Z0 : n0 ≤ h0.size) (E_a1 : Exa Z h0 a1 "com/example/kookaburra/kookaburra/core/RetryPolicy") (F_maxAttempts_a1 : Fld Z h0 a1 "com/example/kookaburra/kookaburra/core/RetryPolicy" "maxAttempts" "I" u1) (F_initialBackoffMillis_a1 : Fld Z h0 a1 "com/example/kookaburra/kookaburra/core/RetryPolicy" "initialBackoffMillis" "J" u2) (F_maxBackoffMillis_a1 : Fld Z h0 a1 "com/example/kookaburra/kookaburra/core/RetryPolicy" "maxBackoffMillis" "J" u3) (g_a1 : n0 ≤ a1) (hp1 : ¬ (q2 < (1 : Int64))) (hp2 : ¬ ((100 : Int64) < q2)) (hp3 : ¬ (q3 < (100 : Int64))) (hp4 : ¬ ((3155760000000 : Int64) < q3)) (hp5 : ¬ (q4 < q3)) (hp6 : ¬ ((3155760000000 : Int64) < q4)) :
    MetFree l (⟨"com/example/kookaburra/kookaburra/core/RetryPolicy", "<init>", "(JJJ)V"⟩ : MethodName) (head1 (Jvm.Cond.code (⟨"com/example/kookaburra/kookaburra/core/RetryPolicy", "<init>", "(JJJ)V"⟩ : MethodName) prog_17_method_1_code 7 none :: ws) R1) (fun a U => a = #[(.ref a1), (.long q2), (.long q3), (.long q4)] ∧ Z.Warmed39 U.vm ∧ U.heap = h0) (fun _ _ _ _ _ => True) (fun _ U o U' => ∃ v L, o = .returned v ∧ Q1 Z a1 q2 q3 q4 u1 u2 u3 h0 n0 v U'.heap L ∧ FrameEnd U o U' L R1.cells R1.slots) := by
  refine MetFree.of_bodySF (plainFor_of_name pn_0) hisR ?_
  intro p e s m args below meth c s₁ Bd hml0 hP hK
  obtain ⟨rfl, hZ, hh⟩ := hP
  have hx := Bd.exec
  have hby := Bd.bytes
  have hlk : meth.locks = false := BodyLoose.notSynchronized Bd
  have hml : c.maxLocals = 7 := hml0
  have hown : s.vm.findClass "com/example/kookaburra/kookaburra/core/RetryPolicy" = some m.cls := findClass_of_methodNamed Bd.named
  have hnm := (name_of_methodNamed Bd.named Bd.method).1
  have X0 : Stand p l e R1 s m #[(.ref a1), (.long q2), (.long q3), (.long q4)] below meth c s₁ [] 0 0 := Stand.of_body Bd
  have e0 : s₁.heap = h0 := by rw [← hh, Bd.state]; rfl
  have N0 := Fr.nil n0
  show own_Goes p e below s (Q1 Z a1 q2 q3 q4 u1 u2 u3 h0 n0) R1.cells R1.slots s₁ (entryFrame m #[(.ref a1), (.long q2), (.long q3), (.long q4)] 7)
  rw [ef_1 m a1 q2 q3 q4]
  refine own_step (f' := (mkF m 1 #[.val (.ref a1), .val (.long q2), .second, .val (.long q3), .second, .val (.long q4), .second] [(.ref a1)])) (fun _ k => XS.aloadN X0.here hx rfl (hb hby d1_0) rfl rfl k) ?_
  obtain ⟨T1, X1, e1, st1⟩ := initO X0 hx hZ hown (hw _ (List.mem_of_getElem? (i := 11) rfl)) (hw _ (List.mem_of_getElem? (i := 12) rfl)) (hw _ (List.mem_of_getElem? (i := 13) rfl)) e0 (g := (mkF m 1 #[.val (.ref a1), .val (.long q2), .second, .val (.long q3), .second, .val (.long q4), .second] [(.ref a1)])) rfl (by rw [hml]; rfl) rfl (hb hby d1_1) (by decide) (W := 0) (by show 2 * 0 + _ ≤ _; exact Nat.le_of_eq rfl) (by decide)
  refine own_step (f' := (mkF m 4 #[.val (.ref a1), .val (.long q2), .second, .val (.long q3), .second, .val (.long q4), .second] [])) st1 ?_
  refine own_step (f' := (mkF m 5 #[.val (.ref a1), .val (.long q2), .second, .val (.long q3), .second, .val (.long q4), .second] [(.long q2)])) (fun _ k => XS.lloadN X1.here hx rfl (hb hby d1_4) rfl k) ?_
  refine own_step (f' := (mkF m 6 #[.val (.ref a1), .val (.long q2), .second, .val (.long q3), .second, .val (.long q4), .second] [(.long (1 : Int64)), (.long q2)])) (fun _ k => XS.lconst X1.here hx rfl (hb hby d1_5) k) ?_
  refine own_step (f' := (mkF m 7 #[.val (.ref a1), .val (.long q2), .second, .val (.long q3), .second, .val (.long q4), .second] [(.int (lcmpW q2 (1 : Int64)))])) (fun _ k => XS.lcmp X1.here hx rfl (hb hby d1_6) rfl k) ?_
  have hf7_2 : ¬ (q2 < (1 : Int64)) := hp1
  refine own_step (f' := (mkF m 10 #[.val (.ref a1), .val (.long q2), .second, .val (.long q3), .second, .val (.long q4), .second] [])) (fun _ k => XS.ifNo X1.here hx rfl (hb hby d1_7) rfl ((if0 _ _).trans (flt (fun q => hf7_2 ((lw_lt _ _).mp q))).1) k) ?_
  refine own_step (f' := (mkF m 11 #[.val (.ref a1), .val (.long q2), .second, .val (.long q3), .second, .val (.long q4), .second] [(.long q2)])) (fun _ k => XS.lloadN X1.here hx rfl (hb hby d1_10) rfl k) ?_
  refine own_step (f' := (mkF m 14 #[.val (.ref a1), .val (.long q2), .second, .val (.long q3), .second, .val (.long q4), .second] [(.long (100 : Int64)), (.long q2)])) (fun _ k => X1.ldc2Long hx hown (mvT hZ (hw _ (List.mem_of_getElem? (i := 14) rfl))) (g := (mkF m 11 #[.val (.ref a1), .val (.long q2), .second, .val (.long q3), .second, .val (.long q4), .second] [(.long q2)])) rfl (hb hby d1_11) _ k) ?_
  refine own_step (f' := (mkF m 15 #[.val (.ref a1), .val (.long q2), .second, .val (.long q3), .second, .val (.long q4), .second] [(.int (lcmpW q2 (100 : Int64)))])) (fun _ k => XS.lcmp X1.here hx rfl (hb hby d1_14) rfl k) ?_
  have hf15_3 : ¬ ((100 : Int64) < q2) := hp2
  refine own_step (f' := (mkF m 32 #[.val (.ref a1), .val (.long q2), .second, .val (.long q3), .second, .val (.long q4), .second] [])) (fun _ k => XS.ifYes X1.here hx rfl (pc0 := 15) (pc' := 32) rfl (hb hby d1_15) rfl ((if0 _ _).trans (flt (fun q => hf15_3 ((lw_gt _ _).mp q))).2.2.2) (by decide) (by decide) k) ?_
  refine own_step (f' := (mkF m 33 #[.val (.ref a1), .val (.long q2), .second, .val (.long q3), .second, .val (.long q4), .second] [(.long q3)])) (fun _ k => XS.lloadN X1.here hx rfl (hb hby d1_32) rfl k) ?_
  refine own_step (f' := (mkF m 36 #[.val (.ref a1), .val (.long q2), .second, .val (.long q3), .second, .val (.long q4), .second] [(.long (100 : Int64)), (.long q3)])) (fun _ k => X1.ldc2Long hx hown (mvT hZ (hw _ (List.mem_of_getElem? (i := 14) rfl))) (g := (mkF m 33 #[.val (.ref a1), .val (.long q2), .second, .val (.long q3), .second, .val (.long q4), .second] [(.long q3)])) rfl (hb hby d1_33) _ k) ?_
  refine own_step (f' := (mkF m 37 #[.val (.ref a1), .val (.long q2), .second, .val (.long q3), .second, .val (.long q4), .second] [(.int (lcmpW q3 (100 : Int64)))])) (fun _ k => XS.lcmp X1.here hx rfl (hb hby d1_36) rfl k) ?_
  have hf37_4 : ¬ (q3 < (100 : Int64)) := hp3
  refine own_step (f' := (mkF m 40 #[.val (.ref a1), .val (.long q2), .second, .val (.long q3), .second, .val (.long q4), .second] [])) (fun _ k => XS.ifNo X1.here hx rfl (hb hby d1_37) rfl ((if0 _ _).trans (flt (fun q => hf37_4 ((lw_lt _ _).mp q))).1) k) ?_
  refine own_step (f' := (mkF m 41 #[.val (.ref a1), .val (.long q2), .second, .val (.long q3), .second, .val (.long q4), .second] [(.long q3)])) (fun _ k => XS.lloadN X1.here hx rfl (hb hby d1_40) rfl k) ?_
  refine own_step (f' := (mkF m 44 #[.val (.ref a1), .val (.long q2), .second, .val (.long q3), .second, .val (.long q4), .second] [(.long (3155760000000 : Int64)), (.long q3)])) (fun _ k => X1.ldc2Long hx hown (mvT hZ (hw _ (List.mem_of_getElem? (i := 15) rfl))) (g := (mkF m 41 #[.val (.ref a1), .val (.long q2), .second, .val (.long q3), .second, .val (.long q4), .second] [(.long q3)])) rfl (hb hby d1_41) _ k) ?_
  refine own_step (f' := (mkF m 45 #[.val (.ref a1), .val (.long q2), .second, .val (.long q3), .second, .val (.long q4), .second] [(.int (lcmpW q3 (3155760000000 : Int64)))])) (fun _ k => XS.lcmp X1.here hx rfl (hb hby d1_44) rfl k) ?_
  have hf45_5 : ¬ ((3155760000000 : Int64) < q3) := hp4
  refine own_step (f' := (mkF m 62 #[.val (.ref a1), .val (.long q2), .second, .val (.long q3), .second, .val (.long q4), .second] [])) (fun _ k => XS.ifYes X1.here hx rfl (pc0 := 45) (pc' := 62) rfl (hb hby d1_45) rfl ((if0 _ _).trans (flt (fun q => hf45_5 ((lw_gt _ _).mp q))).2.2.2) (by decide) (by decide) k) ?_
  refine own_step (f' := (mkF m 64 #[.val (.ref a1), .val (.long q2), .second, .val (.long q3), .second, .val (.long q4), .second] [(.long q4)])) (fun _ k => XS.lload X1.here hx rfl (hb hby d1_62) rfl k) ?_
  refine own_step (f' := (mkF m 65 #[.val (.ref a1), .val (.long q2), .second, .val (.long q3), .second, .val (.long q4), .second] [(.long q3), (.long q4)])) (fun _ k => XS.lloadN X1.here hx rfl (hb hby d1_64) rfl k) ?_
  refine own_step (f' := (mkF m 66 #[.val (.ref a1), .val (.long q2), .second, .val (.long q3), .second, .val (.long q4), .second] [(.int (lcmpW q4 q3))])) (fun _ k => XS.lcmp X1.here hx rfl (hb hby d1_65) rfl k) ?_
  have hf66_6 : ¬ (q4 < q3) := hp5
  refine own_step (f' := (mkF m 69 #[.val (.ref a1), .val (.long q2), .second, .val (.long q3), .second, .val (.long q4), .second] [])) (fun _ k => XS.ifNo X1.here hx rfl (hb hby d1_66) rfl ((if0 _ _).trans (flt (fun q => hf66_6 ((lw_lt _ _).mp q))).1) k) ?_
  refine own_step (f' := (mkF m 71 #[.val (.ref a1), .val (.long q2), .second, .val (.long q3), .second, .val (.long q4), .second] [(.long q4)])) (fun _ k => XS.lload X1.here hx rfl (hb hby d1_69) rfl k) ?_
  refine own_step (f' := (mkF m 74 #[.val (.ref a1), .val (.long q2), .second, .val (.long q3), .second, .val (.long q4), .second] [(.long (3155760000000 : Int64)), (.long q4)])) (fun _ k => X1.ldc2Long hx hown (mvT hZ (hw _ (List.mem_of_getElem? (i := 15) rfl))) (g := (mkF m 71 #[.val (.ref a1), .val (.long q2), .second, .val (.long q3), .second, .val (.long q4), .second] [(.long q4)])) rfl (hb hby d1_71) _ k) ?_
  refine own_step (f' := (mkF m 75 #[.val (.ref a1), .val (.long q2), .second, .val (.long q3), .second, .val (.long q4), .second] [(.int (lcmpW q4 (3155760000000 : Int64)))])) (fun _ k => XS.lcmp X1.here hx rfl (hb hby d1_74) rfl k) ?_
  have hf75_7 : ¬ ((3155760000000 : Int64) < q4) := hp6
  refine own_step (f' := (mkF m 94 #[.val (.ref a1), .val (.long q2), .second, .val (.long q3), .second, .val (.long q4), .second] [])) (fun _ k => XS.ifYes X1.here hx rfl (pc0 := 75) (pc' := 94) rfl (hb hby d1_75) rfl ((if0 _ _).trans (flt (fun q => hf75_7 ((lw_gt _ _).mp q))).2.2.2) (by decide) (by decide) k) ?_
  refine own_step (f' := (mkF m 95 #[.val (.ref a1), .val (.long q2), .second, .val (.long q3), .second, .val (.long q4), .second] [(.ref a1)])) (fun _ k => XS.aloadN X1.here hx rfl (hb hby d1_94) rfl rfl k) ?_
  refine own_step (f' := (mkF m 96 #[.val (.ref a1), .val (.long q2), .second, .val (.long q3), .second, .val (.long q4), .second] [(.long q2), (.ref a1)])) (fun _ k => XS.lloadN X1.here hx rfl (hb hby d1_95) rfl k) ?_
  refine own_step (f' := (mkF m 97 #[.val (.ref a1), .val (.long q2), .second, .val (.long q3), .second, .val (.long q4), .second] [(.int (q2.toInt32)), (.ref a1)])) (fun _ k => XS.l2i X1.here hx rfl (hb hby d1_96) rfl k) ?_
  obtain ⟨T8, h8, X8, e8, W8, st8⟩ := putF X1 hx hZ hown (host := "") (Or.inl (hw _ (List.mem_of_getElem? (i := 16) rfl))) Via.refl e1 F_maxAttempts_a1 E_a1 (Or.inr ⟨(hw _ (List.mem_of_getElem? (i := 17) rfl)), rfl, hnm⟩) (hw _ (List.mem_of_getElem? (i := 6) rfl)) (ty := .int) (by decide) rfl rfl (g := (mkF m 97 #[.val (.ref a1), .val (.long q2), .second, .val (.long q3), .second, .val (.long q4), .second] [(.int (q2.toInt32)), (.ref a1)])) rfl rfl (hb hby d1_97)
  obtain ⟨Lo8, X8, N8⟩ : ∃ K, Stand p l e R1 s m #[(.ref a1), (.long q2), (.long q3), (.long q4)] below meth c T8 K 0 0 ∧ Fr n0 K := ⟨_, X8, (Fr.snoc X8 N0 g_a1)⟩
  refine own_step (f' := (mkF m 100 #[.val (.ref a1), .val (.long q2), .second, .val (.long q3), .second, .val (.long q4), .second] [])) st8 ?_
  refine own_step (f' := (mkF m 101 #[.val (.ref a1), .val (.long q2), .second, .val (.long q3), .second, .val (.long q4), .second] [(.ref a1)])) (fun _ k => XS.aloadN X8.here hx rfl (hb hby d1_100) rfl rfl k) ?_
  refine own_step (f' := (mkF m 102 #[.val (.ref a1), .val (.long q2), .second, .val (.long q3), .second, .val (.long q4), .second] [(.long q3), (.ref a1)])) (fun _ k => XS.lloadN X8.here hx rfl (hb hby d1_101) rfl k) ?_
  obtain ⟨T9, h9, X9, e9, W9, st9⟩ := putF X8 hx hZ hown (host := "") (Or.inl (hw _ (List.mem_of_getElem? (i := 18) rfl))) Via.refl e8 (F_initialBackoffMillis_a1.other W8 (Or.inr (slot_ne (Or.inr (hw _ (List.mem_of_getElem? (i := 19) rfl))) (Or.inr (hw _ (List.mem_of_getElem? (i := 17) rfl))) (by decide) (t := .long) (t' := .int) (by decide) (by decide)))) (E_a1.wr W8) (Or.inr ⟨(hw _ (List.mem_of_getElem? (i := 19) rfl)), rfl, hnm⟩) (hw _ (List.mem_of_getElem? (i := 6) rfl)) (ty := .long) (by decide) rfl rfl (g := (mkF m 102 #[.val (.ref a1), .val (.long q2), .second, .val (.long q3), .second, .val (.long q4), .second] [(.long q3), (.ref a1)])) rfl rfl (hb hby d1_102)
  obtain ⟨Lo9, X9, N9⟩ : ∃ K, Stand p l e R1 s m #[(.ref a1), (.long q2), (.long q3), (.long q4)] below meth c T9 K 0 0 ∧ Fr n0 K := ⟨_, X9, (Fr.snoc X9 N8 g_a1)⟩
  refine own_step (f' := (mkF m 105 #[.val (.ref a1), .val (.long q2), .second, .val (.long q3), .second, .val (.long q4), .second] [])) st9 ?_
  refine own_step (f' := (mkF m 106 #[.val (.ref a1), .val (.long q2), .second, .val (.long q3), .second, .val (.long q4), .second] [(.ref a1)])) (fun _ k => XS.aloadN X9.here hx rfl (hb hby d1_105) rfl rfl k) ?_
  refine own_step (f' := (mkF m 108 #[.val (.ref a1), .val (.long q2), .second, .val (.long q3), .second, .val (.long q4), .second] [(.long q4), (.ref a1)])) (fun _ k => XS.lload X9.here hx rfl (hb hby d1_106) rfl k) ?_
  obtain ⟨T10, h10, X10, e10, W10, st10⟩ := putF X9 hx hZ hown (host := "") (Or.inl (hw _ (List.mem_of_getElem? (i := 20) rfl))) Via.refl e9 ((F_maxBackoffMillis_a1.other W8 (Or.inr (slot_ne (Or.inr (hw _ (List.mem_of_getElem? (i := 21) rfl))) (Or.inr (hw _ (List.mem_of_getElem? (i := 17) rfl))) (by decide) (t := .long) (t' := .int) (by decide) (by decide)))).other W9 (Or.inr (slot_ne (Or.inr (hw _ (List.mem_of_getElem? (i := 21) rfl))) (Or.inr (hw _ (List.mem_of_getElem? (i := 19) rfl))) (by decide) (t := .long) (t' := .long) (by decide) (by decide)))) ((E_a1.wr W8).wr W9) (Or.inr ⟨(hw _ (List.mem_of_getElem? (i := 21) rfl)), rfl, hnm⟩) (hw _ (List.mem_of_getElem? (i := 6) rfl)) (ty := .long) (by decide) rfl rfl (g := (mkF m 108 #[.val (.ref a1), .val (.long q2), .second, .val (.long q3), .second, .val (.long q4), .second] [(.long q4), (.ref a1)])) rfl rfl (hb hby d1_108)
  obtain ⟨Lo10, X10, N10⟩ : ∃ K, Stand p l e R1 s m #[(.ref a1), (.long q2), (.long q3), (.long q4)] below meth c T10 K 0 0 ∧ Fr n0 K := ⟨_, X10, (Fr.snoc X10 N9 g_a1)⟩
  refine own_step (f' := (mkF m 111 #[.val (.ref a1), .val (.long q2), .second, .val (.long q3), .second, .val (.long q4), .second] [])) st10 ?_
  refine own_out (v := none) X10 hlk (fun _ => rfl) (fun fs hr => X10.returnOut hx Bd.returns (hb hby d1_111) hr) (by decide) (by decide) ?_
  rw [e10]
  exact ⟨rfl, N10, ((((Keep.refl h0 [a1]).wr W8 (Or.inl (List.mem_of_getElem? (i := 0) rfl))).wr W9 (Or.inl (List.mem_of_getElem? (i := 0) rfl))).wr W10 (Or.inl (List.mem_of_getElem? (i := 0) rfl))), (((E_a1.wr W8).wr W9).wr W10), (((F_maxAttempts_a1.same W8).other W9 (Or.inr (slot_ne (Or.inr (hw _ (List.mem_of_getElem? (i := 17) rfl))) (Or.inr (hw _ (List.mem_of_getElem? (i := 19) rfl))) (by decide) (t := .int) (t' := .long) (by decide) (by decide)))).other W10 (Or.inr (slot_ne (Or.inr (hw _ (List.mem_of_getElem? (i := 17) rfl))) (Or.inr (hw _ (List.mem_of_getElem? (i := 21) rfl))) (by decide) (t := .int) (t' := .long) (by decide) (by decide)))), (((F_initialBackoffMillis_a1.other W8 (Or.inr (slot_ne (Or.inr (hw _ (List.mem_of_getElem? (i := 19) rfl))) (Or.inr (hw _ (List.mem_of_getElem? (i := 17) rfl))) (by decide) (t := .long) (t' := .int) (by decide) (by decide)))).same W9).other W10 (Or.inr (slot_ne (Or.inr (hw _ (List.mem_of_getElem? (i := 19) rfl))) (Or.inr (hw _ (List.mem_of_getElem? (i := 21) rfl))) (by decide) (t := .long) (t' := .long) (by decide) (by decide)))), (((F_maxBackoffMillis_a1.other W8 (Or.inr (slot_ne (Or.inr (hw _ (List.mem_of_getElem? (i := 21) rfl))) (Or.inr (hw _ (List.mem_of_getElem? (i := 17) rfl))) (by decide) (t := .long) (t' := .int) (by decide) (by decide)))).other W9 (Or.inr (slot_ne (Or.inr (hw _ (List.mem_of_getElem? (i := 21) rfl))) (Or.inr (hw _ (List.mem_of_getElem? (i := 19) rfl))) (by decide) (t := .long) (t' := .long) (by decide) (by decide)))).same W10)⟩
theorem own_lmod (x y : Int64) (hx : 0 ≤ x.toInt) : (x % y).toInt = x.toInt % y.toInt := by
  rw [Int64.toInt_mod]; exact Int.tmod_eq_emod_of_nonneg hx
theorem own_maskM (x : Int64) : (x &&& (9223372036854775807 : Int64)).toInt = x.toInt % 9223372036854775808 := c_maskL x 9223372036854775807 63 (by decide) (by decide)
theorem own_mask31 (x : Int64) : (x &&& (2147483647 : Int64)).toInt = x.toInt % 2147483648 := c_maskL x 2147483647 31 (by decide) (by decide)
theorem own_m (x : Int64) : ((1 : Int64) + (x &&& (2147483647 : Int64)) % (100 : Int64)).toInt = 1 + (x.toInt % 2147483648) % 100 := by
  have h1 := own_mask31 x
  have h2 := own_lmod (x &&& (2147483647 : Int64)) 100 (by omega)
  have e1 : (1 : Int64).toInt = 1 := by decide
  have e2 : (100 : Int64).toInt = 100 := by decide
  have h3 := c_ladd 1 ((x &&& (2147483647 : Int64)) % (100 : Int64))
  have h4 := rng64 ((1 : Int64) + (x &&& (2147483647 : Int64)) % (100 : Int64))
  rw [e2] at h2
  omega
theorem own_b (x : Int64) : 100 ≤ ((100 : Int64) + (x &&& (9223372036854775807 : Int64)) % (3155759999901 : Int64)).toInt ∧ ((100 : Int64) + (x &&& (9223372036854775807 : Int64)) % (3155759999901 : Int64)).toInt ≤ 3155760000000 := by
  have h1 := own_maskM x
  have h2 := own_lmod (x &&& (9223372036854775807 : Int64)) 3155759999901 (by omega)
  have e1 : (100 : Int64).toInt = 100 := by decide
  have e2 : (3155759999901 : Int64).toInt = 3155759999901 := by decide
  have h3 := c_ladd 100 ((x &&& (9223372036854775807 : Int64)) % (3155759999901 : Int64))
  have h4 := rng64 ((100 : Int64) + (x &&& (9223372036854775807 : Int64)) % (3155759999901 : Int64))
  rw [e2] at h2
  omega
theorem own_den (b : Int64) (h : 100 ≤ b.toInt ∧ b.toInt ≤ 3155760000000) : ((3155760000000 : Int64) - b + (1 : Int64)).toInt = 3155760000000 - b.toInt + 1 := by
  have e1 : (1 : Int64).toInt = 1 := by decide
  have e2 : (3155760000000 : Int64).toInt = 3155760000000 := by decide
  have h1 := c_lsub 3155760000000 b
  have h2 := c_ladd ((3155760000000 : Int64) - b) 1
  have h3 := rng64 ((3155760000000 : Int64) - b)
  have h4 := rng64 ((3155760000000 : Int64) - b + (1 : Int64))
  omega
theorem own_den0 (b : Int64) (h : 100 ≤ b.toInt ∧ b.toInt ≤ 3155760000000) : (3155760000000 : Int64) - b + (1 : Int64) ≠ 0 := fun q => by
  have h1 := own_den b h
  rw [q] at h1
  have e1 : (0 : Int64).toInt = 0 := by decide
  omega
theorem own_mb (b x : Int64) (h : 100 ≤ b.toInt ∧ b.toInt ≤ 3155760000000) : b.toInt ≤ (b + (x &&& (9223372036854775807 : Int64)) % ((3155760000000 : Int64) - b + (1 : Int64))).toInt ∧ (b + (x &&& (9223372036854775807 : Int64)) % ((3155760000000 : Int64) - b + (1 : Int64))).toInt ≤ 3155760000000 := by
  have h1 := own_maskM x
  have h2 := own_lmod (x &&& (9223372036854775807 : Int64)) ((3155760000000 : Int64) - b + (1 : Int64)) (by omega)
  have h5 := own_den b h
  have h6 := Int.emod_nonneg (x &&& (9223372036854775807 : Int64)).toInt (b := ((3155760000000 : Int64) - b + (1 : Int64)).toInt) (by omega)
  have h7 := Int.emod_lt_of_pos (x &&& (9223372036854775807 : Int64)).toInt (b := ((3155760000000 : Int64) - b + (1 : Int64)).toInt) (by omega)
  rw [← h2] at h6 h7
  have h3 := c_ladd b ((x &&& (9223372036854775807 : Int64)) % ((3155760000000 : Int64) - b + (1 : Int64)))
  have h4 := rng64 (b + (x &&& (9223372036854775807 : Int64)) % ((3155760000000 : Int64) - b + (1 : Int64)))
  omega
theorem own_nl (x y : Int64) (h : y.toInt ≤ x.toInt) : ¬ (x < y) := by
  rw [Int64.lt_iff_toInt_lt]; omega
theorem own_prem (q2 q3 q4 : Int64) (h2 : 1 ≤ q2.toInt ∧ q2.toInt ≤ 100) (h3 : 100 ≤ q3.toInt ∧ q3.toInt ≤ 3155760000000) (h4 : q3.toInt ≤ q4.toInt ∧ q4.toInt ≤ 3155760000000) :
    ¬ (q2 < (1 : Int64)) ∧ ¬ ((100 : Int64) < q2) ∧ ¬ (q3 < (100 : Int64)) ∧ ¬ ((3155760000000 : Int64) < q3) ∧ ¬ (q4 < q3) ∧ ¬ ((3155760000000 : Int64) < q4) := by
  have e1 : (1 : Int64).toInt = 1 := by decide
  have e2 : (100 : Int64).toInt = 100 := by decide
  have e3 : (3155760000000 : Int64).toInt = 3155760000000 := by decide
  exact ⟨own_nl _ _ (by omega), own_nl _ _ (by omega), own_nl _ _ (by omega), own_nl _ _ (by omega), own_nl _ _ (by omega), own_nl _ _ (by omega)⟩
def own_min (x y : Int32) : Int32 := if y < x then y else x
def own_minL (x y : Int64) : Int64 := if y < x then y else x
theorem d4_0 : decode jdk_29_method_69_code 0 = .ok (.iload_n 0, 1) := by decide +kernel
theorem d4_1 : decode jdk_29_method_69_code 1 = .ok (.iload_n 1, 1) := by decide +kernel
theorem d4_2 : decode jdk_29_method_69_code 2 = .ok (.if_icmp .gt 7, 3) := by decide +kernel
theorem d4_5 : decode jdk_29_method_69_code 5 = .ok (.iload_n 0, 1) := by decide +kernel
theorem d4_6 : decode jdk_29_method_69_code 6 = .ok (.goto 4, 3) := by decide +kernel
theorem d4_9 : decode jdk_29_method_69_code 9 = .ok (.iload_n 1, 1) := by decide +kernel
theorem d4_10 : decode jdk_29_method_69_code 10 = .ok (.ireturn, 1) := by decide +kernel
theorem ef_4 (m : MethodId) (x0 : Int32) (x1 : Int32) : entryFrame m #[(.int x0), (.int x1)] 2 = mkF m 0 #[.val (.int x0), .val (.int x1)] [] := by first | (simp [entryFrame, mkF, argsToLocals, Value.category]; done) | rfl
def Q4 (Z : State) (p1 : Int32) (p2 : Int32) (h0 : Heap) (n0 : Nat) (v : Option Value) (h : Heap) (L : List Loc) : Prop := v = some (.int (own_min p1 p2)) ∧ L = [] ∧ h = h0
abbrev R4 : Room := { frames := 0, cells := 0, slots := 0, locals := 0 }
set_option maxRecDepth 65536 in
set_option maxHeartbeats 40000000 in
theorem rm4 (l : Launch) (Z : State) (a0 : Array Value) (hw : ∀ d ∈ tables_1, d.before a0 Z = true) (ws : List Jvm.Cond) (p1 : Int32) (p2 : Int32) (h0 : Heap) (n0 : Nat) (Z0 : n0 ≤ h0.size)  :
    MetFree l (⟨"java/lang/Math", "min", "(II)I"⟩ : MethodName) (head1 (Jvm.Cond.code (⟨"java/lang/Math", "min", "(II)I"⟩ : MethodName) jdk_29_method_69_code 2 (some .int) :: ws) R4) (fun a U => a = #[(.int p1), (.int p2)] ∧ Z.Warmed39 U.vm ∧ U.heap = h0) (fun _ _ _ _ _ => True) (fun _ U o U' => ∃ v L, o = .returned v ∧ Q4 Z p1 p2 h0 n0 v U'.heap L ∧ FrameEnd U o U' L R4.cells R4.slots) := by
  refine MetFree.of_bodySF (Jvm.Free.JP.mathPlain rfl (by decide +kernel)) hisR ?_
  intro p e s m args below meth c s₁ Bd hml0 hP hK
  obtain ⟨rfl, hZ, hh⟩ := hP
  have hx := Bd.exec
  have hby := Bd.bytes
  have hlk : meth.locks = false := BodyLoose.notSynchronized Bd
  have hml : c.maxLocals = 2 := hml0
  have hown : s.vm.findClass "java/lang/Math" = some m.cls := findClass_of_methodNamed Bd.named
  have hnm := (name_of_methodNamed Bd.named Bd.method).1
  have X0 : Stand p l e R4 s m #[(.int p1), (.int p2)] below meth c s₁ [] 0 0 := Stand.of_body Bd
  have e0 : s₁.heap = h0 := by rw [← hh, Bd.state]; rfl
  have N0 := Fr.nil n0
  show own_Goes p e below s (Q4 Z p1 p2 h0 n0) R4.cells R4.slots s₁ (entryFrame m #[(.int p1), (.int p2)] 2)
  rw [ef_4 m p1 p2]
  refine own_step (f' := (mkF m 1 #[.val (.int p1), .val (.int p2)] [(.int p1)])) (fun _ k => XS.iloadN X0.here hx rfl (hb hby d4_0) rfl k) ?_
  refine own_step (f' := (mkF m 2 #[.val (.int p1), .val (.int p2)] [(.int p2), (.int p1)])) (fun _ k => XS.iloadN X0.here hx rfl (hb hby d4_1) rfl k) ?_
  by_cases hc2_1 : p2 < p1
  · refine own_step (f' := (mkF m 9 #[.val (.int p1), .val (.int p2)] [])) (fun _ k => XS.icmpYes X0.here hx rfl (pc0 := 2) (pc' := 9) rfl (hb hby d4_2) rfl (tlt hc2_1).2.2.1 (by decide) (by decide) k) ?_
    refine own_step (f' := (mkF m 10 #[.val (.int p1), .val (.int p2)] [(.int p2)])) (fun _ k => XS.iloadN X0.here hx rfl (hb hby d4_9) rfl k) ?_
    refine own_out (v := some (.int p2)) X0 hlk (fun h => by rw [Bd.returns] at h; cases h) (fun fs hr => retOut X0 hx Bd.returns rfl (Or.inl ⟨rfl, Or.inl rfl, _, rfl⟩) (hb hby d4_10) hr) (by decide) (by decide) ?_
    rw [e0]
    exact ⟨(by rw [own_min, if_pos hc2_1]), rfl, rfl⟩
  · refine own_step (f' := (mkF m 5 #[.val (.int p1), .val (.int p2)] [])) (fun _ k => XS.icmpNo X0.here hx rfl (hb hby d4_2) rfl (flt hc2_1).2.2.1 k) ?_
    refine own_step (f' := (mkF m 6 #[.val (.int p1), .val (.int p2)] [(.int p1)])) (fun _ k => XS.iloadN X0.here hx rfl (hb hby d4_5) rfl k) ?_
    refine own_step (f' := (mkF m 10 #[.val (.int p1), .val (.int p2)] [(.int p1)])) (fun _ k => XS.goto X0.here hx rfl (pc0 := 6) (pc' := 10) rfl (hb hby d4_6) (by decide) (by decide) k) ?_
    refine own_out (v := some (.int p1)) X0 hlk (fun h => by rw [Bd.returns] at h; cases h) (fun fs hr => retOut X0 hx Bd.returns rfl (Or.inl ⟨rfl, Or.inl rfl, _, rfl⟩) (hb hby d4_10) hr) (by decide) (by decide) ?_
    rw [e0]
    exact ⟨(by rw [own_min, if_neg hc2_1]), rfl, rfl⟩
theorem d5_0 : decode jdk_29_method_70_code 0 = .ok (.lload_n 0, 1) := by decide +kernel
theorem d5_1 : decode jdk_29_method_70_code 1 = .ok (.lload_n 2, 1) := by decide +kernel
theorem d5_2 : decode jdk_29_method_70_code 2 = .ok (.lcmp, 1) := by decide +kernel
theorem d5_3 : decode jdk_29_method_70_code 3 = .ok (.ifCond .gt 7, 3) := by decide +kernel
theorem d5_6 : decode jdk_29_method_70_code 6 = .ok (.lload_n 0, 1) := by decide +kernel
theorem d5_7 : decode jdk_29_method_70_code 7 = .ok (.goto 4, 3) := by decide +kernel
theorem d5_10 : decode jdk_29_method_70_code 10 = .ok (.lload_n 2, 1) := by decide +kernel
theorem d5_11 : decode jdk_29_method_70_code 11 = .ok (.lreturn, 1) := by decide +kernel
theorem ef_5 (m : MethodId) (x0 : Int64) (x1 : Int64) : entryFrame m #[(.long x0), (.long x1)] 4 = mkF m 0 #[.val (.long x0), .second, .val (.long x1), .second] [] := by first | (simp [entryFrame, mkF, argsToLocals, Value.category]; done) | rfl
def Q5 (Z : State) (q1 : Int64) (q2 : Int64) (h0 : Heap) (n0 : Nat) (v : Option Value) (h : Heap) (L : List Loc) : Prop := v = some (.long (own_minL q1 q2)) ∧ L = [] ∧ h = h0
abbrev R5 : Room := { frames := 0, cells := 0, slots := 0, locals := 0 }
set_option maxRecDepth 65536 in
set_option maxHeartbeats 40000000 in
theorem rm5 (l : Launch) (Z : State) (a0 : Array Value) (hw : ∀ d ∈ tables_1, d.before a0 Z = true) (ws : List Jvm.Cond) (q1 : Int64) (q2 : Int64) (h0 : Heap) (n0 : Nat) (Z0 : n0 ≤ h0.size)  :
    MetFree l (⟨"java/lang/Math", "min", "(JJ)J"⟩ : MethodName) (head1 (Jvm.Cond.code (⟨"java/lang/Math", "min", "(JJ)J"⟩ : MethodName) jdk_29_method_70_code 4 (some .long) :: ws) R5) (fun a U => a = #[(.long q1), (.long q2)] ∧ Z.Warmed39 U.vm ∧ U.heap = h0) (fun _ _ _ _ _ => True) (fun _ U o U' => ∃ v L, o = .returned v ∧ Q5 Z q1 q2 h0 n0 v U'.heap L ∧ FrameEnd U o U' L R5.cells R5.slots) := by
  refine MetFree.of_bodySF (Jvm.Free.JP.mathPlain rfl (by decide +kernel)) hisR ?_
  intro p e s m args below meth c s₁ Bd hml0 hP hK
  obtain ⟨rfl, hZ, hh⟩ := hP
  have hx := Bd.exec
  have hby := Bd.bytes
  have hlk : meth.locks = false := BodyLoose.notSynchronized Bd
  have hml : c.maxLocals = 4 := hml0
  have hown : s.vm.findClass "java/lang/Math" = some m.cls := findClass_of_methodNamed Bd.named
  have hnm := (name_of_methodNamed Bd.named Bd.method).1
  have X0 : Stand p l e R5 s m #[(.long q1), (.long q2)] below meth c s₁ [] 0 0 := Stand.of_body Bd
  have e0 : s₁.heap = h0 := by rw [← hh, Bd.state]; rfl
  have N0 := Fr.nil n0
  show own_Goes p e below s (Q5 Z q1 q2 h0 n0) R5.cells R5.slots s₁ (entryFrame m #[(.long q1), (.long q2)] 4)
  rw [ef_5 m q1 q2]
  refine own_step (f' := (mkF m 1 #[.val (.long q1), .second, .val (.long q2), .second] [(.long q1)])) (fun _ k => XS.lloadN X0.here hx rfl (hb hby d5_0) rfl k) ?_
  refine own_step (f' := (mkF m 2 #[.val (.long q1), .second, .val (.long q2), .second] [(.long q2), (.long q1)])) (fun _ k => XS.lloadN X0.here hx rfl (hb hby d5_1) rfl k) ?_
  refine own_step (f' := (mkF m 3 #[.val (.long q1), .second, .val (.long q2), .second] [(.int (lcmpW q1 q2))])) (fun _ k => XS.lcmp X0.here hx rfl (hb hby d5_2) rfl k) ?_
  by_cases hc3_1 : q2 < q1
  · refine own_step (f' := (mkF m 10 #[.val (.long q1), .second, .val (.long q2), .second] [])) (fun _ k => XS.ifYes X0.here hx rfl (pc0 := 3) (pc' := 10) rfl (hb hby d5_3) rfl ((if0 _ _).trans (tlt ((lw_gt _ _).mpr hc3_1)).2.2.1) (by decide) (by decide) k) ?_
    refine own_step (f' := (mkF m 11 #[.val (.long q1), .second, .val (.long q2), .second] [(.long q2)])) (fun _ k => XS.lloadN X0.here hx rfl (hb hby d5_10) rfl k) ?_
    refine own_out (v := some (.long q2)) X0 hlk (fun h => by rw [Bd.returns] at h; cases h) (fun fs hr => retOut X0 hx Bd.returns rfl (Or.inr (Or.inl ⟨rfl, rfl, _, rfl⟩)) (hb hby d5_11) hr) (by decide) (by decide) ?_
    rw [e0]
    exact ⟨(by rw [own_minL, if_pos hc3_1]), rfl, rfl⟩
  · refine own_step (f' := (mkF m 6 #[.val (.long q1), .second, .val (.long q2), .second] [])) (fun _ k => XS.ifNo X0.here hx rfl (hb hby d5_3) rfl ((if0 _ _).trans (flt (fun q => hc3_1 ((lw_gt _ _).mp q))).2.2.1) k) ?_
    refine own_step (f' := (mkF m 7 #[.val (.long q1), .second, .val (.long q2), .second] [(.long q1)])) (fun _ k => XS.lloadN X0.here hx rfl (hb hby d5_6) rfl k) ?_
    refine own_step (f' := (mkF m 11 #[.val (.long q1), .second, .val (.long q2), .second] [(.long q1)])) (fun _ k => XS.goto X0.here hx rfl (pc0 := 7) (pc' := 11) rfl (hb hby d5_7) (by decide) (by decide) k) ?_
    refine own_out (v := some (.long q1)) X0 hlk (fun h => by rw [Bd.returns] at h; cases h) (fun fs hr => retOut X0 hx Bd.returns rfl (Or.inr (Or.inl ⟨rfl, rfl, _, rfl⟩)) (hb hby d5_11) hr) (by decide) (by decide) ?_
    rw [e0]
    exact ⟨(by rw [own_minL, if_neg hc3_1]), rfl, rfl⟩
def own_cap (b m : Int) : Nat → Int
  | 0 => if b ≤ m then b else m
  | j + 1 => if 2 * own_cap b m j ≤ m then 2 * own_cap b m j else m
theorem own_cap_le (b m : Int) (j : Nat) : own_cap b m j ≤ m := by
  cases j <;> simp only [own_cap] <;> split <;> omega
theorem own_cap_nn (b m : Int) (h : 0 ≤ b) (hm : 0 ≤ m) (j : Nat) : 0 ≤ own_cap b m j := by
  induction j with
  | zero => simp only [own_cap]; split <;> omega
  | succ j ih => simp only [own_cap]; split <;> omega
theorem own_cap_stay (b m : Int) (hm : 0 ≤ m) (j : Nat) (h : own_cap b m j = m) (d : Nat) : own_cap b m (j + d) = m := by
  induction d with
  | zero => exact h
  | succ d ih =>
    show own_cap b m (j + d + 1) = m
    simp only [own_cap, ih]
    split <;> omega
theorem own_cap_pow (b m : Int) (hm : 0 ≤ m) (hb : 0 ≤ b) (j : Nat) : own_cap b m j = if b * 2 ^ j ≤ m then b * 2 ^ j else m := by
  induction j with
  | zero => simp only [own_cap, Int.pow_zero, Int.mul_one]
  | succ j ih =>
    have e : b * 2 ^ (j + 1) = 2 * (b * 2 ^ j) := by rw [Int.pow_succ, ← Int.mul_assoc, Int.mul_comm _ 2]
    have n : 0 ≤ b * 2 ^ j := Int.mul_nonneg hb (Int.pow_nonneg (by decide))
    rw [e]
    simp only [own_cap, ih]
    generalize b * 2 ^ j = P at *
    (repeat' split) <;> omega
theorem own_x (x : Int64) (z : Int) (h : x.toInt = z) : x = Int64.ofInt z := by
  subst h; exact (Int64.ofInt_toInt x).symm
theorem own_step1 (x m : Int64) (b : Int) (j : Nat) (hb : 0 ≤ b) (hm : 0 ≤ m.toInt ∧ m.toInt ≤ 4611686018427387903) (hx : x.toInt = own_cap b m.toInt j) : (own_minL (x * (2 : Int64)) m).toInt = own_cap b m.toInt (j + 1) := by
  have h1 := own_cap_le b m.toInt j
  have h2 := own_cap_nn b m.toInt hb hm.1 j
  have h3 := c_lmul x 2
  have h4 := rng64 (x * 2)
  have e2 : (2 : Int64).toInt = 2 := by decide
  rw [e2] at h3
  have h5 : (x * (2 : Int64)).toInt = 2 * x.toInt := by omega
  simp only [own_cap, own_minL, Int64.lt_iff_toInt_lt, h5, hx]
  (repeat' split) <;> omega
theorem own_ent (k : Int32) (b m : Int64) (hk : ¬ (k < (1 : Int32))) (hB : 1 ≤ b.toInt ∧ b.toInt ≤ m.toInt ∧ m.toInt ≤ 4611686018427387903) :
    (k.toInt - (1 : Int32).toInt).toNat = (k.toInt - (1 : Int32).toInt).toNat ∧ 1 ≤ (1 : Int32).toInt ∧ (1 : Int32).toInt ≤ k.toInt ∧ b.toInt = own_cap b.toInt m.toInt ((1 : Int32).toInt - 1).toNat := by
  have e1 : (1 : Int32).toInt = 1 := by decide
  rw [Int32.lt_iff_toInt_lt] at hk
  refine ⟨rfl, by omega, by omega, ?_⟩
  rw [e1]
  show b.toInt = own_cap b.toInt m.toInt 0
  simp only [own_cap]
  rw [if_pos hB.2.1]
theorem own_inc (i k : Int32) (h : i < k) : (i + (1 : Int32)).toInt = i.toInt + 1 ∧ i.toInt < k.toInt := by
  rw [Int32.lt_iff_toInt_lt] at h
  have h1 := c_iadd i 1
  have h2 := rng32 (i + 1)
  have h3 := rng32 k
  have h4 := rng32 i
  have e1 : (1 : Int32).toInt = 1 := by decide
  omega
theorem own_inv (i k : Int32) (x b m : Int64) (hB : 1 ≤ b.toInt ∧ b.toInt ≤ m.toInt ∧ m.toInt ≤ 4611686018427387903) (hI : 1 ≤ i.toInt ∧ i.toInt ≤ k.toInt ∧ x.toInt = own_cap b.toInt m.toInt (i.toInt - 1).toNat) (h : i < k) :
    (k.toInt - (i + (1 : Int32)).toInt).toNat = (k.toInt - (i + (1 : Int32)).toInt).toNat ∧ 1 ≤ (i + (1 : Int32)).toInt ∧ (i + (1 : Int32)).toInt ≤ k.toInt ∧ (own_minL (x * (2 : Int64)) m).toInt = own_cap b.toInt m.toInt ((i + (1 : Int32)).toInt - 1).toNat := by
  have q := own_inc i k h
  have e : ((i + (1 : Int32)).toInt - 1).toNat = (i.toInt - 1).toNat + 1 := by omega
  refine ⟨rfl, by omega, by omega, ?_⟩
  rw [e]
  exact own_step1 x m b.toInt _ (by omega) (by omega) hI.2.2
theorem own_out1 (i k : Int32) (x b m : Int64) (hI : 1 ≤ i.toInt ∧ i.toInt ≤ k.toInt ∧ x.toInt = own_cap b.toInt m.toInt (i.toInt - 1).toNat) (h : ¬ i < k) : x = Int64.ofInt (own_cap b.toInt m.toInt (k.toInt - 1).toNat) := by
  rw [Int32.lt_iff_toInt_lt] at h
  apply own_x
  rw [show k.toInt = i.toInt by omega]
  exact hI.2.2
theorem own_out2 (i k : Int32) (x b m : Int64) (hB : 1 ≤ b.toInt ∧ b.toInt ≤ m.toInt ∧ m.toInt ≤ 4611686018427387903) (hI : 1 ≤ i.toInt ∧ i.toInt ≤ k.toInt ∧ x.toInt = own_cap b.toInt m.toInt (i.toInt - 1).toNat) (h : ¬ x < m) : x = Int64.ofInt (own_cap b.toInt m.toInt (k.toInt - 1).toNat) := by
  rw [Int64.lt_iff_toInt_lt] at h
  have h1 := own_cap_le b.toInt m.toInt (i.toInt - 1).toNat
  have h2 : own_cap b.toInt m.toInt (i.toInt - 1).toNat = m.toInt := by omega
  have h3 := own_cap_stay b.toInt m.toInt (by omega) _ h2 (k.toInt - i.toInt).toNat
  rw [show (i.toInt - 1).toNat + (k.toInt - i.toInt).toNat = (k.toInt - 1).toNat by omega] at h3
  apply own_x
  rw [h3]
  omega
theorem pd_0 : parseMethodDescriptor "(JJ)J" = some ⟨[.long, .long], some .long⟩ := by decide +kernel
theorem d3_0 : decode prog_17_method_7_code 0 = .ok (.iload_n 1, 1) := by decide +kernel
theorem d3_1 : decode prog_17_method_7_code 1 = .ok (.iconst 1, 1) := by decide +kernel
theorem d3_2 : decode prog_17_method_7_code 2 = .ok (.if_icmp .ge 17, 3) := by decide +kernel
theorem d3_19 : decode prog_17_method_7_code 19 = .ok (.aload_n 0, 1) := by decide +kernel
theorem d3_20 : decode prog_17_method_7_code 20 = .ok (.getfield 32, 3) := by decide +kernel
theorem d3_23 : decode prog_17_method_7_code 23 = .ok (.lstore_n 2, 1) := by decide +kernel
theorem d3_24 : decode prog_17_method_7_code 24 = .ok (.iconst 1, 1) := by decide +kernel
theorem d3_25 : decode prog_17_method_7_code 25 = .ok (.istore 4, 2) := by decide +kernel
theorem d3_27 : decode prog_17_method_7_code 27 = .ok (.iload 4, 2) := by decide +kernel
theorem d3_29 : decode prog_17_method_7_code 29 = .ok (.iload_n 1, 1) := by decide +kernel
theorem d3_30 : decode prog_17_method_7_code 30 = .ok (.if_icmp .ge 31, 3) := by decide +kernel
theorem d3_33 : decode prog_17_method_7_code 33 = .ok (.lload_n 2, 1) := by decide +kernel
theorem d3_34 : decode prog_17_method_7_code 34 = .ok (.aload_n 0, 1) := by decide +kernel
theorem d3_35 : decode prog_17_method_7_code 35 = .ok (.getfield 36, 3) := by decide +kernel
theorem d3_38 : decode prog_17_method_7_code 38 = .ok (.lcmp, 1) := by decide +kernel
theorem d3_39 : decode prog_17_method_7_code 39 = .ok (.ifCond .ge 22, 3) := by decide +kernel
theorem d3_42 : decode prog_17_method_7_code 42 = .ok (.lload_n 2, 1) := by decide +kernel
theorem d3_43 : decode prog_17_method_7_code 43 = .ok (.ldc2_w 54, 3) := by decide +kernel
theorem d3_46 : decode prog_17_method_7_code 46 = .ok (.lmul, 1) := by decide +kernel
theorem d3_47 : decode prog_17_method_7_code 47 = .ok (.aload_n 0, 1) := by decide +kernel
theorem d3_48 : decode prog_17_method_7_code 48 = .ok (.getfield 36, 3) := by decide +kernel
theorem d3_51 : decode prog_17_method_7_code 51 = .ok (.invokestatic 56, 3) := by decide +kernel
theorem d3_54 : decode prog_17_method_7_code 54 = .ok (.lstore_n 2, 1) := by decide +kernel
theorem d3_55 : decode prog_17_method_7_code 55 = .ok (.iinc 4 1, 3) := by decide +kernel
theorem d3_58 : decode prog_17_method_7_code 58 = .ok (.goto (-31), 3) := by decide +kernel
theorem d3_61 : decode prog_17_method_7_code 61 = .ok (.lload_n 2, 1) := by decide +kernel
theorem d3_62 : decode prog_17_method_7_code 62 = .ok (.lreturn, 1) := by decide +kernel
theorem ef_3 (m : MethodId) (x0 : Addr) (x1 : Int32) : entryFrame m #[(.ref x0), (.int x1)] 5 = mkF m 0 #[.val (.ref x0), .val (.int x1), .unset, .unset, .unset] [] := by first | (simp [entryFrame, mkF, argsToLocals, Value.category]; done) | rfl
def Q3 (Z : State) (a1 : Addr) (p2 : Int32) (q3 : Int64) (q4 : Int64) (h0 : Heap) (n0 : Nat) (v : Option Value) (h : Heap) (L : List Loc) : Prop := v = some (.long (Int64.ofInt (own_cap q3.toInt q4.toInt (p2.toInt - 1).toNat))) ∧ L = [] ∧ h = h0
abbrev R3 : Room := { frames := 1, cells := 0, slots := 0, locals := 15 }
set_option maxRecDepth 65536 in
set_option maxHeartbeats 40000000 in
theorem rm3 (l : Launch) (Z : State) (a0 : Array Value) (hw : ∀ d ∈ tables_1, d.before a0 Z = true) (ws : List Jvm.Cond) (a1 : Addr) (p2 : Int32) (q3 : Int64) (q4 : Int64) (h0 : Heap) (n0 : Nat) (Z0 : n0 ≤ h0.size) (F_initialBackoffMillis_a1 : Fld Z h0 a1 "com/example/kookaburra/kookaburra/core/RetryPolicy" "initialBackoffMillis" "J" (.long q3)) (F_maxBackoffMillis_a1 : Fld Z h0 a1 "com/example/kookaburra/kookaburra/core/RetryPolicy" "maxBackoffMillis" "J" (.long q4)) (hk : ¬ (p2 < (1 : Int32))) (hB : 1 ≤ q3.toInt ∧ q3.toInt ≤ q4.toInt ∧ q4.toInt ≤ 4611686018427387903) :
    MetFree l (⟨"com/example/kookaburra/kookaburra/core/RetryPolicy", "backoffCapMillis", "(I)J"⟩ : MethodName) (head1 (Jvm.Cond.code (⟨"com/example/kookaburra/kookaburra/core/RetryPolicy", "backoffCapMillis", "(I)J"⟩ : MethodName) prog_17_method_7_code 5 (some .long) :: ws) R3) (fun a U => a = #[(.ref a1), (.int p2)] ∧ Z.Warmed39 U.vm ∧ U.heap = h0) (fun _ _ _ _ _ => True) (fun _ U o U' => ∃ v L, o = .returned v ∧ Q3 Z a1 p2 q3 q4 h0 n0 v U'.heap L ∧ FrameEnd U o U' L R3.cells R3.slots) := by
  refine MetFree.of_bodySF (plainFor_of_name pn_0) hisR ?_
  intro p e s m args below meth c s₁ Bd hml0 hP hK
  obtain ⟨rfl, hZ, hh⟩ := hP
  have hx := Bd.exec
  have hby := Bd.bytes
  have hlk : meth.locks = false := BodyLoose.notSynchronized Bd
  have hml : c.maxLocals = 5 := hml0
  have hown : s.vm.findClass "com/example/kookaburra/kookaburra/core/RetryPolicy" = some m.cls := findClass_of_methodNamed Bd.named
  have hnm := (name_of_methodNamed Bd.named Bd.method).1
  have X0 : Stand p l e R3 s m #[(.ref a1), (.int p2)] below meth c s₁ [] 0 0 := Stand.of_body Bd
  have e0 : s₁.heap = h0 := by rw [← hh, Bd.state]; rfl
  have N0 := Fr.nil n0
  show own_Goes p e below s (Q3 Z a1 p2 q3 q4 h0 n0) R3.cells R3.slots s₁ (entryFrame m #[(.ref a1), (.int p2)] 5)
  rw [ef_3 m a1 p2]
  refine own_step (f' := (mkF m 1 #[.val (.ref a1), .val (.int p2), .unset, .unset, .unset] [(.int p2)])) (fun _ k => XS.iloadN X0.here hx rfl (hb hby d3_0) rfl k) ?_
  refine own_step (f' := (mkF m 2 #[.val (.ref a1), .val (.int p2), .unset, .unset, .unset] [(.int (1 : Int32)), (.int p2)])) (fun _ k => XS.iconst X0.here hx rfl (hb hby d3_1) k) ?_
  have hf2_1 : ¬ (p2 < (1 : Int32)) := hk
  refine own_step (f' := (mkF m 19 #[.val (.ref a1), .val (.int p2), .unset, .unset, .unset] [])) (fun _ k => XS.icmpYes X0.here hx rfl (pc0 := 2) (pc' := 19) rfl (hb hby d3_2) rfl (flt hf2_1).2.1 (by decide) (by decide) k) ?_
  refine own_step (f' := (mkF m 20 #[.val (.ref a1), .val (.int p2), .unset, .unset, .unset] [(.ref a1)])) (fun _ k => XS.aloadN X0.here hx rfl (hb hby d3_19) rfl rfl k) ?_
  obtain ⟨T2, X2, e2, st2⟩ := getF X0 hx hZ hown (host := "") (Or.inl (hw _ (List.mem_of_getElem? (i := 18) rfl))) Via.refl e0 F_initialBackoffMillis_a1 (g := (mkF m 20 #[.val (.ref a1), .val (.int p2), .unset, .unset, .unset] [(.ref a1)])) rfl rfl (hb hby d3_20)
  refine own_step (f' := (mkF m 23 #[.val (.ref a1), .val (.int p2), .unset, .unset, .unset] [(.long q3)])) st2 ?_
  refine own_step (f' := (mkF m 24 #[.val (.ref a1), .val (.int p2), .val (.long q3), .second, .unset] [])) (fun _ k => XS.lstoreN X2.here hx rfl (hb hby d3_23) rfl (l' := #[.val (.ref a1), .val (.int p2), .val (.long q3), .second, .unset]) rfl k) ?_
  refine own_step (f' := (mkF m 25 #[.val (.ref a1), .val (.int p2), .val (.long q3), .second, .unset] [(.int (1 : Int32))])) (fun _ k => XS.iconst X2.here hx rfl (hb hby d3_24) k) ?_
  refine own_step (f' := (mkF m 27 #[.val (.ref a1), .val (.int p2), .val (.long q3), .second, .val (.int (1 : Int32))] [])) (fun _ k => XS.istore X2.here hx rfl (hb hby d3_25) rfl (l' := #[.val (.ref a1), .val (.int p2), .val (.long q3), .second, .val (.int (1 : Int32))]) rfl k) ?_
  have LP27 : ∀ (n : Nat) (T_27 : State) (x : Int64) (i : Int32), Stand p l e R3 s m #[(.ref a1), (.int p2)] below meth c T_27 [] 0 0 → T_27.heap = h0 → (n = (p2.toInt - i.toInt).toNat ∧ 1 ≤ i.toInt ∧ i.toInt ≤ p2.toInt ∧ x.toInt = own_cap q3.toInt q4.toInt (i.toInt - 1).toNat) → own_Goes p e below s (Q3 Z a1 p2 q3 q4 h0 n0) R3.cells R3.slots T_27 (mkF m 27 #[.val (.ref a1), .val (.int p2), .val (.long x), .second, .val (.int i)] []) := by
    intro n
    induction n using Nat.strongRecOn with
    | _ n ih =>
      intro T_27 x i X_27 e_27 hI
      refine own_step (f' := (mkF m 29 #[.val (.ref a1), .val (.int p2), .val (.long x), .second, .val (.int i)] [(.int i)])) (fun _ k => XS.iload X_27.here hx rfl (hb hby d3_27) rfl k) ?_
      refine own_step (f' := (mkF m 30 #[.val (.ref a1), .val (.int p2), .val (.long x), .second, .val (.int i)] [(.int p2), (.int i)])) (fun _ k => XS.iloadN X_27.here hx rfl (hb hby d3_29) rfl k) ?_
      by_cases hc30_3 : i < p2
      · refine own_step (f' := (mkF m 33 #[.val (.ref a1), .val (.int p2), .val (.long x), .second, .val (.int i)] [])) (fun _ k => XS.icmpNo X_27.here hx rfl (hb hby d3_30) rfl (tlt hc30_3).2.1 k) ?_
        refine own_step (f' := (mkF m 34 #[.val (.ref a1), .val (.int p2), .val (.long x), .second, .val (.int i)] [(.long x)])) (fun _ k => XS.lloadN X_27.here hx rfl (hb hby d3_33) rfl k) ?_
        refine own_step (f' := (mkF m 35 #[.val (.ref a1), .val (.int p2), .val (.long x), .second, .val (.int i)] [(.ref a1), (.long x)])) (fun _ k => XS.aloadN X_27.here hx rfl (hb hby d3_34) rfl rfl k) ?_
        obtain ⟨T4, X4, e4, st4⟩ := getF X_27 hx hZ hown (host := "") (Or.inl (hw _ (List.mem_of_getElem? (i := 20) rfl))) Via.refl e_27 F_maxBackoffMillis_a1 (g := (mkF m 35 #[.val (.ref a1), .val (.int p2), .val (.long x), .second, .val (.int i)] [(.ref a1), (.long x)])) rfl rfl (hb hby d3_35)
        refine own_step (f' := (mkF m 38 #[.val (.ref a1), .val (.int p2), .val (.long x), .second, .val (.int i)] [(.long q4), (.long x)])) st4 ?_
        refine own_step (f' := (mkF m 39 #[.val (.ref a1), .val (.int p2), .val (.long x), .second, .val (.int i)] [(.int (lcmpW x q4))])) (fun _ k => XS.lcmp X4.here hx rfl (hb hby d3_38) rfl k) ?_
        by_cases hc39_5 : x < q4
        · refine own_step (f' := (mkF m 42 #[.val (.ref a1), .val (.int p2), .val (.long x), .second, .val (.int i)] [])) (fun _ k => XS.ifNo X4.here hx rfl (hb hby d3_39) rfl ((if0 _ _).trans (tlt ((lw_lt _ _).mpr hc39_5)).2.1) k) ?_
          refine own_step (f' := (mkF m 43 #[.val (.ref a1), .val (.int p2), .val (.long x), .second, .val (.int i)] [(.long x)])) (fun _ k => XS.lloadN X4.here hx rfl (hb hby d3_42) rfl k) ?_
          refine own_step (f' := (mkF m 46 #[.val (.ref a1), .val (.int p2), .val (.long x), .second, .val (.int i)] [(.long (2 : Int64)), (.long x)])) (fun _ k => X4.ldc2Long hx hown (mvT hZ (hw _ (List.mem_of_getElem? (i := 32) rfl))) (g := (mkF m 43 #[.val (.ref a1), .val (.int p2), .val (.long x), .second, .val (.int i)] [(.long x)])) rfl (hb hby d3_43) _ k) ?_
          refine own_step (f' := (mkF m 47 #[.val (.ref a1), .val (.int p2), .val (.long x), .second, .val (.int i)] [(.long (x * (2 : Int64)))])) (fun _ k => XS.lmul X4.here hx rfl (hb hby d3_46) rfl k) ?_
          refine own_step (f' := (mkF m 48 #[.val (.ref a1), .val (.int p2), .val (.long x), .second, .val (.int i)] [(.ref a1), (.long (x * (2 : Int64)))])) (fun _ k => XS.aloadN X4.here hx rfl (hb hby d3_47) rfl rfl k) ?_
          obtain ⟨T6, X6, e6, st6⟩ := getF X4 hx hZ hown (host := "") (Or.inl (hw _ (List.mem_of_getElem? (i := 20) rfl))) Via.refl e4 F_maxBackoffMillis_a1 (g := (mkF m 48 #[.val (.ref a1), .val (.int p2), .val (.long x), .second, .val (.int i)] [(.ref a1), (.long (x * (2 : Int64)))])) rfl rfl (hb hby d3_48)
          refine own_step (f' := (mkF m 51 #[.val (.ref a1), .val (.int p2), .val (.long x), .second, .val (.int i)] [(.long q4), (.long (x * (2 : Int64)))])) st6 ?_
          have Zq7 : n0 ≤ h0.size := Z0
          obtain ⟨_, _, ⟨T7, L7, k7, n7⟩, -, X7, ⟨Lc7, hQ7, l7, y7, z7⟩, st7⟩ := Jvm.LawKit.callS X6 hx (y := (⟨"java/lang/Math", "min", "(JJ)J"⟩ : MethodName)) hown (mvT hZ (hw _ (List.mem_of_getElem? (i := 33) rfl))) (mvT hZ (hw _ (List.mem_of_getElem? (i := 34) rfl))) (mvT hZ (hw _ (List.mem_of_getElem? (i := 29) rfl))) (mvT hZ (hw _ (List.mem_of_getElem? (i := 35) rfl))) (by decide) (backOf (W := 0) (rm5 l Z a0 hw [] (x * (2 : Int64)) q4 h0 n0 Zq7 ) hZ (hw _ (List.mem_of_getElem? (i := 35) rfl)) (hw _ (List.mem_of_getElem? (i := 29) rfl)) (by decide) (by decide)) (g := (mkF m 51 #[.val (.ref a1), .val (.int p2), .val (.long x), .second, .val (.int i)] [(.long q4), (.long (x * (2 : Int64)))])) rfl (by rw [hml]; rfl) (argsL := [(.long (x * (2 : Int64))), (.long q4)]) (rest := []) (lenOf pd_0 rfl) rfl (by show 2 * 0 + _ ≤ _; exact Nat.le_of_eq rfl) (hb hby d3_51) (fun _ _ => ⟨rfl, e6, (by decide : 0 + 0 ≤ _), (by decide : 0 + 0 ≤ _)⟩)
          dsimp only [Pt.U, Pt.locs, Pt.cells, Pt.slots] at X7 l7 y7 z7 st7 hQ7
          subst l7 y7 z7
          obtain ⟨rfl, rfl, e7⟩ := hQ7
          try rw [List.append_nil] at X7
          refine own_step (f' := (mkF m 54 #[.val (.ref a1), .val (.int p2), .val (.long x), .second, .val (.int i)] [(.long (own_minL (x * (2 : Int64)) q4))])) st7 ?_
          refine own_step (f' := (mkF m 55 #[.val (.ref a1), .val (.int p2), .val (.long (own_minL (x * (2 : Int64)) q4)), .second, .val (.int i)] [])) (fun _ k => XS.lstoreN X7.here hx rfl (hb hby d3_54) rfl (l' := #[.val (.ref a1), .val (.int p2), .val (.long (own_minL (x * (2 : Int64)) q4)), .second, .val (.int i)]) rfl k) ?_
          refine own_step (f' := (mkF m 58 #[.val (.ref a1), .val (.int p2), .val (.long (own_minL (x * (2 : Int64)) q4)), .second, .val (.int (i + (1 : Int32)))] [])) (fun _ k => XS.iinc X7.here hx rfl (hb hby d3_55) rfl (l' := #[.val (.ref a1), .val (.int p2), .val (.long (own_minL (x * (2 : Int64)) q4)), .second, .val (.int (i + (1 : Int32)))]) rfl k) ?_
          refine own_step (f' := (mkF m 27 #[.val (.ref a1), .val (.int p2), .val (.long (own_minL (x * (2 : Int64)) q4)), .second, .val (.int (i + (1 : Int32)))] [])) (fun _ k => XS.goto X7.here hx rfl (pc0 := 58) (pc' := 27) rfl (hb hby d3_58) (by decide) (by decide) k) ?_
          exact ih ((p2.toInt - (i + (1 : Int32)).toInt).toNat) (by have q := own_inc i p2 hc30_3; have q1 := rng32 p2; omega) _ (own_minL (x * (2 : Int64)) q4) (i + (1 : Int32)) X7 e7 (own_inv i p2 x q3 q4 hB hI.2 hc30_3)
        · refine own_step (f' := (mkF m 61 #[.val (.ref a1), .val (.int p2), .val (.long x), .second, .val (.int i)] [])) (fun _ k => XS.ifYes X4.here hx rfl (pc0 := 39) (pc' := 61) rfl (hb hby d3_39) rfl ((if0 _ _).trans (flt (fun q => hc39_5 ((lw_lt _ _).mp q))).2.1) (by decide) (by decide) k) ?_
          refine own_step (f' := (mkF m 62 #[.val (.ref a1), .val (.int p2), .val (.long x), .second, .val (.int i)] [(.long x)])) (fun _ k => XS.lloadN X4.here hx rfl (hb hby d3_61) rfl k) ?_
          refine own_out (v := some (.long x)) X4 hlk (fun h => by rw [Bd.returns] at h; cases h) (fun fs hr => retOut X4 hx Bd.returns rfl (Or.inr (Or.inl ⟨rfl, rfl, _, rfl⟩)) (hb hby d3_62) hr) (by decide) (by decide) ?_
          rw [e4]
          exact ⟨(congrArg (fun z => some (Value.long z)) (own_out2 i p2 x q3 q4 hB hI.2 hc39_5)), rfl, rfl⟩
      · refine own_step (f' := (mkF m 61 #[.val (.ref a1), .val (.int p2), .val (.long x), .second, .val (.int i)] [])) (fun _ k => XS.icmpYes X_27.here hx rfl (pc0 := 30) (pc' := 61) rfl (hb hby d3_30) rfl (flt hc30_3).2.1 (by decide) (by decide) k) ?_
        refine own_step (f' := (mkF m 62 #[.val (.ref a1), .val (.int p2), .val (.long x), .second, .val (.int i)] [(.long x)])) (fun _ k => XS.lloadN X_27.here hx rfl (hb hby d3_61) rfl k) ?_
        refine own_out (v := some (.long x)) X_27 hlk (fun h => by rw [Bd.returns] at h; cases h) (fun fs hr => retOut X_27 hx Bd.returns rfl (Or.inr (Or.inl ⟨rfl, rfl, _, rfl⟩)) (hb hby d3_62) hr) (by decide) (by decide) ?_
        rw [e_27]
        exact ⟨(congrArg (fun z => some (Value.long z)) (own_out1 i p2 x q3 q4 hI.2 hc30_3)), rfl, rfl⟩
  exact LP27 (_) _ q3 (1 : Int32) X2 e2 (own_ent p2 q3 q4 hk hB)
theorem own_bv (s : Int32) (j : Nat) (h : s.toInt = j) : s.toBitVec.toNat = j := by
  have h1 : s.toBitVec.toInt = j := h
  rw [BitVec.toInt_eq_toNat_cond] at h1
  have := s.toBitVec.isLt
  split at h1 <;> omega
theorem own_fin (b m : Int64) (k : Int32) (v : Int64) (hk : ¬ (k < (1 : Int32))) (hb : 100 ≤ b.toInt ∧ b.toInt ≤ 3155760000000) (hm : b.toInt ≤ m.toInt ∧ m.toInt ≤ 3155760000000)
    (hv : v = if (m >>> ((own_min (k - (1 : Int32)) (62 : Int32)) &&& 0x3f).toInt64) < b then m else (b <<< ((own_min (k - (1 : Int32)) (62 : Int32)) &&& 0x3f).toInt64)) : (Int64.ofInt (own_cap b.toInt m.toInt (k.toInt - 1).toNat)) = v := by
  subst hv
  have e1 : (1 : Int32).toInt = 1 := by decide
  have e62 : (62 : Int32).toInt = 62 := by decide
  rw [Int32.lt_iff_toInt_lt] at hk
  have k1 := c_isub k 1
  have k2 := rng32 (k - 1)
  have k3 := rng32 k
  have k4 : (k - (1 : Int32)).toInt = k.toInt - 1 := by omega
  obtain ⟨j, hj⟩ : ∃ j : Nat, (k.toInt - 1).toNat = j := ⟨_, rfl⟩
  rw [hj]
  by_cases c : (62 : Int32) < k - (1 : Int32)
  · have es : own_min (k - (1 : Int32)) (62 : Int32) = 62 := by unfold own_min; rw [if_pos c]
    rw [es]
    rw [Int32.lt_iff_toInt_lt] at c
    have h1 := c_lshr m 62 62 (by decide)
    have h62 : own_cap b.toInt m.toInt 62 = m.toInt := by
      rw [own_cap_pow _ _ (by omega) (by omega), if_neg]
      have : (2 : Int) ^ 62 = 4611686018427387904 := by decide
      rw [this]; omega
    have h2 := own_cap_stay b.toInt m.toInt (by omega) 62 h62 (j - 62)
    rw [show 62 + (j - 62) = j by omega] at h2
    rw [if_pos, h2]
    · exact Int64.ofInt_toInt m
    · rw [Int64.lt_iff_toInt_lt, h1]
      have : ((2 ^ 62 : Nat) : Int) = 4611686018427387904 := by decide
      rw [this]; omega
  · have es : own_min (k - (1 : Int32)) (62 : Int32) = k - (1 : Int32) := by unfold own_min; rw [if_neg c]
    rw [es]
    rw [Int32.lt_iff_toInt_lt] at c
    have hs : (k - (1 : Int32)).toBitVec.toNat % 64 = j := by rw [own_bv (k - (1 : Int32)) j (by omega)]; omega
    have h1 := c_lshr m (k - (1 : Int32)) j hs
    have h2 := c_lshl b (k - (1 : Int32)) j hs
    have hp : (0 : Int) < 2 ^ j := Int.pow_pos (by decide)
    have hc : ((2 ^ j : Nat) : Int) = (2 : Int) ^ j := by simp
    rw [hc] at h1 h2
    have h3 := own_cap_pow b.toInt m.toInt (by omega) (by omega) j
    have h4 : b.toInt ≤ m.toInt / 2 ^ j ↔ b.toInt * 2 ^ j ≤ m.toInt := Int.le_ediv_iff_mul_le hp
    by_cases q : (m >>> ((k - (1 : Int32)) &&& 0x3f).toInt64) < b
    · rw [if_pos q]
      rw [Int64.lt_iff_toInt_lt, h1] at q
      rw [h3, if_neg (by omega)]
      exact Int64.ofInt_toInt m
    · rw [if_neg q]
      rw [Int64.lt_iff_toInt_lt, h1] at q
      have h5 : b.toInt * 2 ^ j ≤ m.toInt := h4.mp (by omega)
      rw [h3, if_pos h5]
      have h6 := rng64 (b <<< ((k - (1 : Int32)) &&& 0x3f).toInt64)
      have h7 : 0 ≤ b.toInt * 2 ^ j := Int.mul_nonneg (by omega) (by omega)
      exact (own_x _ _ (by omega)).symm
theorem own_a (x : Int32) : 1 ≤ (((x &&& (2147483647 : Int32)) % (100 : Int32)) + (1 : Int32)).toInt64.toInt ∧ (((x &&& (2147483647 : Int32)) % (100 : Int32)) + (1 : Int32)).toInt64.toInt ≤ 100 := by
  have h1 := c_mask x 2147483647 31 (by decide) (by decide)
  have h2 := (c_irem (x &&& 2147483647) 100 100 (by decide)).1
  have h3 := c_iadd ((x &&& (2147483647 : Int32)) % (100 : Int32)) 1
  have h4 := rng32 (((x &&& (2147483647 : Int32)) % (100 : Int32)) + 1)
  have e1 : (1 : Int32).toInt = 1 := by decide
  rw [c_i2l]
  omega
theorem own_b2 (x : Int64) : 100 ≤ ((100 : Int64) + (x &&& (9223372036854775807 : Int64)) % (((3155760000000 : Int64) - (100 : Int64)) + (1 : Int64))).toInt ∧ ((100 : Int64) + (x &&& (9223372036854775807 : Int64)) % (((3155760000000 : Int64) - (100 : Int64)) + (1 : Int64))).toInt ≤ 3155760000000 := by
  rw [show ((3155760000000 : Int64) - (100 : Int64)) + (1 : Int64) = 3155759999901 by decide]
  exact own_b x
theorem own_bm (s : Int32) (x y b m : Int64) (hb : b = if (s &&& (2 : Int32)) = (0 : Int32) then ((100 : Int64) + ((x &&& (9223372036854775807 : Int64)) % (((3155760000000 : Int64) - (100 : Int64)) + (1 : Int64)))) else ((100 : Int64) + (x &&& (65535 : Int64))))
    (hm : m = if (s &&& (2 : Int32)) = (0 : Int32) then (((100 : Int64) + ((x &&& (9223372036854775807 : Int64)) % (((3155760000000 : Int64) - (100 : Int64)) + (1 : Int64)))) + ((y &&& (9223372036854775807 : Int64)) % (((3155760000000 : Int64) - ((100 : Int64) + ((x &&& (9223372036854775807 : Int64)) % (((3155760000000 : Int64) - (100 : Int64)) + (1 : Int64))))) + (1 : Int64)))) else (((100 : Int64) + (x &&& (65535 : Int64))) + (y &&& (268435455 : Int64)))) :
    (100 ≤ b.toInt ∧ b.toInt ≤ 3155760000000) ∧ (b.toInt ≤ m.toInt ∧ m.toInt ≤ 3155760000000) := by
  by_cases q : (s &&& (2 : Int32)) = (0 : Int32)
  · rw [if_pos q] at hb hm
    rw [← hb] at hm
    have h := own_b2 x
    rw [← hb] at h
    refine ⟨h, ?_⟩
    rw [hm]
    exact own_mb b y h
  · rw [if_neg q] at hb hm
    have h1 := c_maskL x 65535 16 (by decide) (by decide)
    have h2 := c_maskL y 268435455 28 (by decide) (by decide)
    have h3 := c_ladd 100 (x &&& (65535 : Int64))
    have h4 := rng64 ((100 : Int64) + (x &&& (65535 : Int64)))
    rw [← hb] at h3 h4 hm
    have h5 := c_ladd b (y &&& (268435455 : Int64))
    rw [← hm] at h5
    have h6 := rng64 m
    have e1 : (100 : Int64).toInt = 100 := by decide
    omega
theorem own_k (s r k : Int32) (hk : k = if (s &&& (1 : Int32)) = (0 : Int32) then (if (r &&& (2147483647 : Int32)) = (0 : Int32) then (1 : Int32) else (r &&& (2147483647 : Int32))) else ((r &&& (63 : Int32)) + (1 : Int32))) : ¬ (k < (1 : Int32)) := by
  rw [Int32.lt_iff_toInt_lt]
  have e1 : (1 : Int32).toInt = 1 := by decide
  have e0 : (0 : Int32).toInt = 0 := by decide
  have h1 := c_mask r 2147483647 31 (by decide) (by decide)
  have h2 := c_mask r 63 6 (by decide) (by decide)
  have h3 := c_iadd (r &&& (63 : Int32)) 1
  have h4 := rng32 ((r &&& (63 : Int32)) + 1)
  simp only [← Int32.toInt_inj] at hk
  subst_vars
  rw [hk] at *
  split
  · split
    · omega
    · omega
  · omega
theorem pd_1 : parseMethodDescriptor "(JJJ)V" = some ⟨[.long, .long, .long], none⟩ := by decide +kernel
theorem pd_2 : parseMethodDescriptor "(I)J" = some ⟨[.int], some .long⟩ := by decide +kernel
theorem pd_3 : parseMethodDescriptor "(II)I" = some ⟨[.int, .int], some .int⟩ := by decide +kernel
theorem pn_1 : plainName "com/example/kookaburra/kookaburra/core/RetryPolicyBackoffCapMillisPinLaw" = true := by first | (simp [plainName, overriddenIn]; done) | decide +kernel
theorem ef_0 (m : MethodId) (x0 : Int32) (x1 : Int64) (x2 : Int64) (x3 : Int32) (x4 : Int32) : entryFrame m #[(.int x0), (.long x1), (.long x2), (.int x3), (.int x4)] maxLocals = mkF m 0 #[.val (.int x0), .val (.long x1), .second, .val (.long x2), .second, .val (.int x3), .val (.int x4), .unset, .unset, .unset, .unset, .unset, .unset, .unset, .unset, .unset, .unset, .unset, .unset, .unset, .unset, .unset, .unset, .unset] [] := by first | (simp [entryFrame, mkF, argsToLocals, Value.category, maxLocals]; done) | rfl
def Q0 (Z : State) (i1 : Int32) (q2 : Int64) (q3 : Int64) (i4 : Int32) (i5 : Int32) (h0 : Heap) (n0 : Nat) (v : Option Value) (h : Heap) (L : List Loc) : Prop := v = some (.int 1) ∧ Fr n0 L
set_option maxRecDepth 65536 in
set_option maxHeartbeats 40000000 in
theorem rm0 (l : Launch) (Z : State) (a0 : Array Value) (hw : ∀ d ∈ tables_1, d.before a0 Z = true) (ws : List Jvm.Cond) (i1 : Int32) (q2 : Int64) (q3 : Int64) (i4 : Int32) (i5 : Int32) (h0 : Heap) (n0 : Nat) (Z0 : n0 ≤ h0.size)  :
    MetFree l x (head1 (Jvm.Cond.code x code maxLocals ret :: ws) room_1) (fun a U => a = #[(.int i1), (.long q2), (.long q3), (.int i4), (.int i5)] ∧ Z.Warmed39 U.vm ∧ U.heap = h0) (fun _ _ _ _ _ => True) (fun _ U o U' => ∃ v L, o = .returned v ∧ Q0 Z i1 q2 q3 i4 i5 h0 n0 v U'.heap L ∧ FrameEnd U o U' L room_1.cells room_1.slots) := by
  refine MetFree.of_bodySF (plainFor_of_name pn_1) hisR ?_
  intro p e s m args below meth c s₁ Bd hml0 hP hK
  obtain ⟨rfl, hZ, hh⟩ := hP
  have hx := Bd.exec
  have hby := Bd.bytes
  have hlk : meth.locks = false := BodyLoose.notSynchronized Bd
  have hml : c.maxLocals = 24 := hml0
  have hown : s.vm.findClass "com/example/kookaburra/kookaburra/core/RetryPolicyBackoffCapMillisPinLaw" = some m.cls := findClass_of_methodNamed Bd.named
  have hnm := (name_of_methodNamed Bd.named Bd.method).1
  have X0 : Stand p l e room_1 s m #[(.int i1), (.long q2), (.long q3), (.int i4), (.int i5)] below meth c s₁ [] 0 0 := Stand.of_body Bd
  have e0 : s₁.heap = h0 := by rw [← hh, Bd.state]; rfl
  have N0 := Fr.nil n0
  show own_Goes p e below s (Q0 Z i1 q2 q3 i4 i5 h0 n0) room_1.cells room_1.slots s₁ (entryFrame m #[(.int i1), (.long q2), (.long q3), (.int i4), (.int i5)] maxLocals)
  rw [ef_0 m i1 q2 q3 i4 i5]
  refine own_step (f' := (mkF m 3 #[.val (.int i1), .val (.long q2), .second, .val (.long q3), .second, .val (.int i4), .val (.int i5), .unset, .unset, .unset, .unset, .unset, .unset, .unset, .unset, .unset, .unset, .unset, .unset, .unset, .unset, .unset, .unset, .unset] [(.long (3155760000000 : Int64))])) (fun _ k => X0.ldc2Long hx hown (mvT hZ (hw _ (List.mem_of_getElem? (i := 0) rfl))) (g := (mkF m 0 #[.val (.int i1), .val (.long q2), .second, .val (.long q3), .second, .val (.int i4), .val (.int i5), .unset, .unset, .unset, .unset, .unset, .unset, .unset, .unset, .unset, .unset, .unset, .unset, .unset, .unset, .unset, .unset, .unset] [])) rfl (hb hby at_0) _ k) ?_
  refine own_step (f' := (mkF m 5 #[.val (.int i1), .val (.long q2), .second, .val (.long q3), .second, .val (.int i4), .val (.int i5), .val (.long (3155760000000 : Int64)), .second, .unset, .unset, .unset, .unset, .unset, .unset, .unset, .unset, .unset, .unset, .unset, .unset, .unset, .unset, .unset] [])) (fun _ k => XS.lstore X0.here hx rfl (hb hby at_3) rfl (l' := #[.val (.int i1), .val (.long q2), .second, .val (.long q3), .second, .val (.int i4), .val (.int i5), .val (.long (3155760000000 : Int64)), .second, .unset, .unset, .unset, .unset, .unset, .unset, .unset, .unset, .unset, .unset, .unset, .unset, .unset, .unset, .unset]) rfl k) ?_
  refine own_step (f' := (mkF m 8 #[.val (.int i1), .val (.long q2), .second, .val (.long q3), .second, .val (.int i4), .val (.int i5), .val (.long (3155760000000 : Int64)), .second, .unset, .unset, .unset, .unset, .unset, .unset, .unset, .unset, .unset, .unset, .unset, .unset, .unset, .unset, .unset] [(.long (100 : Int64))])) (fun _ k => X0.ldc2Long hx hown (mvT hZ (hw _ (List.mem_of_getElem? (i := 1) rfl))) (g := (mkF m 5 #[.val (.int i1), .val (.long q2), .second, .val (.long q3), .second, .val (.int i4), .val (.int i5), .val (.long (3155760000000 : Int64)), .second, .unset, .unset, .unset, .unset, .unset, .unset, .unset, .unset, .unset, .unset, .unset, .unset, .unset, .unset, .unset] [])) rfl (hb hby at_5) _ k) ?_
  refine own_step (f' := (mkF m 10 #[.val (.int i1), .val (.long q2), .second, .val (.long q3), .second, .val (.int i4), .val (.int i5), .val (.long (3155760000000 : Int64)), .second, .val (.long (100 : Int64)), .second, .unset, .unset, .unset, .unset, .unset, .unset, .unset, .unset, .unset, .unset, .unset, .unset, .unset] [])) (fun _ k => XS.lstore X0.here hx rfl (hb hby at_8) rfl (l' := #[.val (.int i1), .val (.long q2), .second, .val (.long q3), .second, .val (.int i4), .val (.int i5), .val (.long (3155760000000 : Int64)), .second, .val (.long (100 : Int64)), .second, .unset, .unset, .unset, .unset, .unset, .unset, .unset, .unset, .unset, .unset, .unset, .unset, .unset]) rfl k) ?_
  refine own_step (f' := (mkF m 11 #[.val (.int i1), .val (.long q2), .second, .val (.long q3), .second, .val (.int i4), .val (.int i5), .val (.long (3155760000000 : Int64)), .second, .val (.long (100 : Int64)), .second, .unset, .unset, .unset, .unset, .unset, .unset, .unset, .unset, .unset, .unset, .unset, .unset, .unset] [(.int i1)])) (fun _ k => XS.iloadN X0.here hx rfl (hb hby at_10) rfl k) ?_
  refine own_step (f' := (mkF m 13 #[.val (.int i1), .val (.long q2), .second, .val (.long q3), .second, .val (.int i4), .val (.int i5), .val (.long (3155760000000 : Int64)), .second, .val (.long (100 : Int64)), .second, .unset, .unset, .unset, .unset, .unset, .unset, .unset, .unset, .unset, .unset, .unset, .unset, .unset] [(.int (2147483647 : Int32)), (.int i1)])) (fun _ k => X0.ldcInt hx hown (mvT hZ (hw _ (List.mem_of_getElem? (i := 2) rfl))) (g := (mkF m 11 #[.val (.int i1), .val (.long q2), .second, .val (.long q3), .second, .val (.int i4), .val (.int i5), .val (.long (3155760000000 : Int64)), .second, .val (.long (100 : Int64)), .second, .unset, .unset, .unset, .unset, .unset, .unset, .unset, .unset, .unset, .unset, .unset, .unset, .unset] [(.int i1)])) rfl (hb hby at_11) _ k) ?_
  refine own_step (f' := (mkF m 14 #[.val (.int i1), .val (.long q2), .second, .val (.long q3), .second, .val (.int i4), .val (.int i5), .val (.long (3155760000000 : Int64)), .second, .val (.long (100 : Int64)), .second, .unset, .unset, .unset, .unset, .unset, .unset, .unset, .unset, .unset, .unset, .unset, .unset, .unset] [(.int (i1 &&& (2147483647 : Int32)))])) (fun _ k => XS.iand X0.here hx rfl (hb hby at_13) rfl k) ?_
  refine own_step (f' := (mkF m 16 #[.val (.int i1), .val (.long q2), .second, .val (.long q3), .second, .val (.int i4), .val (.int i5), .val (.long (3155760000000 : Int64)), .second, .val (.long (100 : Int64)), .second, .unset, .unset, .unset, .unset, .unset, .unset, .unset, .unset, .unset, .unset, .unset, .unset, .unset] [(.int (100 : Int32)), (.int (i1 &&& (2147483647 : Int32)))])) (fun _ k => XS.bipush X0.here hx rfl (hb hby at_14) k) ?_
  refine own_step (f' := (mkF m 17 #[.val (.int i1), .val (.long q2), .second, .val (.long q3), .second, .val (.int i4), .val (.int i5), .val (.long (3155760000000 : Int64)), .second, .val (.long (100 : Int64)), .second, .unset, .unset, .unset, .unset, .unset, .unset, .unset, .unset, .unset, .unset, .unset, .unset, .unset] [(.int ((i1 &&& (2147483647 : Int32)) % (100 : Int32)))])) (fun _ k => iremM X0 hx rfl (hb hby at_16) rfl (by decide) k) ?_
  refine own_step (f' := (mkF m 18 #[.val (.int i1), .val (.long q2), .second, .val (.long q3), .second, .val (.int i4), .val (.int i5), .val (.long (3155760000000 : Int64)), .second, .val (.long (100 : Int64)), .second, .unset, .unset, .unset, .unset, .unset, .unset, .unset, .unset, .unset, .unset, .unset, .unset, .unset] [(.int (1 : Int32)), (.int ((i1 &&& (2147483647 : Int32)) % (100 : Int32)))])) (fun _ k => XS.iconst X0.here hx rfl (hb hby at_17) k) ?_
  refine own_step (f' := (mkF m 19 #[.val (.int i1), .val (.long q2), .second, .val (.long q3), .second, .val (.int i4), .val (.int i5), .val (.long (3155760000000 : Int64)), .second, .val (.long (100 : Int64)), .second, .unset, .unset, .unset, .unset, .unset, .unset, .unset, .unset, .unset, .unset, .unset, .unset, .unset] [(.int (((i1 &&& (2147483647 : Int32)) % (100 : Int32)) + (1 : Int32)))])) (fun _ k => XS.iadd X0.here hx rfl (hb hby at_18) rfl k) ?_
  refine own_step (f' := (mkF m 20 #[.val (.int i1), .val (.long q2), .second, .val (.long q3), .second, .val (.int i4), .val (.int i5), .val (.long (3155760000000 : Int64)), .second, .val (.long (100 : Int64)), .second, .unset, .unset, .unset, .unset, .unset, .unset, .unset, .unset, .unset, .unset, .unset, .unset, .unset] [(.long ((((i1 &&& (2147483647 : Int32)) % (100 : Int32)) + (1 : Int32)).toInt64))])) (fun _ k => XS.i2l X0.here hx rfl (hb hby at_19) rfl k) ?_
  refine own_step (f' := (mkF m 22 #[.val (.int i1), .val (.long q2), .second, .val (.long q3), .second, .val (.int i4), .val (.int i5), .val (.long (3155760000000 : Int64)), .second, .val (.long (100 : Int64)), .second, .val (.long ((((i1 &&& (2147483647 : Int32)) % (100 : Int32)) + (1 : Int32)).toInt64)), .second, .unset, .unset, .unset, .unset, .unset, .unset, .unset, .unset, .unset, .unset, .unset] [])) (fun _ k => XS.lstore X0.here hx rfl (hb hby at_20) rfl (l' := #[.val (.int i1), .val (.long q2), .second, .val (.long q3), .second, .val (.int i4), .val (.int i5), .val (.long (3155760000000 : Int64)), .second, .val (.long (100 : Int64)), .second, .val (.long ((((i1 &&& (2147483647 : Int32)) % (100 : Int32)) + (1 : Int32)).toInt64)), .second, .unset, .unset, .unset, .unset, .unset, .unset, .unset, .unset, .unset, .unset, .unset]) rfl k) ?_
  refine own_step (f' := (mkF m 24 #[.val (.int i1), .val (.long q2), .second, .val (.long q3), .second, .val (.int i4), .val (.int i5), .val (.long (3155760000000 : Int64)), .second, .val (.long (100 : Int64)), .second, .val (.long ((((i1 &&& (2147483647 : Int32)) % (100 : Int32)) + (1 : Int32)).toInt64)), .second, .unset, .unset, .unset, .unset, .unset, .unset, .unset, .unset, .unset, .unset, .unset] [(.int i5)])) (fun _ k => XS.iload X0.here hx rfl (hb hby at_22) rfl k) ?_
  refine own_step (f' := (mkF m 25 #[.val (.int i1), .val (.long q2), .second, .val (.long q3), .second, .val (.int i4), .val (.int i5), .val (.long (3155760000000 : Int64)), .second, .val (.long (100 : Int64)), .second, .val (.long ((((i1 &&& (2147483647 : Int32)) % (100 : Int32)) + (1 : Int32)).toInt64)), .second, .unset, .unset, .unset, .unset, .unset, .unset, .unset, .unset, .unset, .unset, .unset] [(.int (2 : Int32)), (.int i5)])) (fun _ k => XS.iconst X0.here hx rfl (hb hby at_24) k) ?_
  refine own_step (f' := (mkF m 26 #[.val (.int i1), .val (.long q2), .second, .val (.long q3), .second, .val (.int i4), .val (.int i5), .val (.long (3155760000000 : Int64)), .second, .val (.long (100 : Int64)), .second, .val (.long ((((i1 &&& (2147483647 : Int32)) % (100 : Int32)) + (1 : Int32)).toInt64)), .second, .unset, .unset, .unset, .unset, .unset, .unset, .unset, .unset, .unset, .unset, .unset] [(.int (i5 &&& (2 : Int32)))])) (fun _ k => XS.iand X0.here hx rfl (hb hby at_25) rfl k) ?_
  have J26_2 : ∀ (T26_2 : State) (v26_2_l13 : Int64) (v26_2_l15 : Int64), Stand p l e room_1 s m #[(.int i1), (.long q2), (.long q3), (.int i4), (.int i5)] below meth c T26_2 [] 0 0 → T26_2.heap = h0 → v26_2_l13 = (if (i5 &&& (2 : Int32)) = (0 : Int32) then ((100 : Int64) + ((q2 &&& (9223372036854775807 : Int64)) % (((3155760000000 : Int64) - (100 : Int64)) + (1 : Int64)))) else ((100 : Int64) + (q2 &&& (65535 : Int64)))) → v26_2_l15 = (if (i5 &&& (2 : Int32)) = (0 : Int32) then (((100 : Int64) + ((q2 &&& (9223372036854775807 : Int64)) % (((3155760000000 : Int64) - (100 : Int64)) + (1 : Int64)))) + ((q3 &&& (9223372036854775807 : Int64)) % (((3155760000000 : Int64) - ((100 : Int64) + ((q2 &&& (9223372036854775807 : Int64)) % (((3155760000000 : Int64) - (100 : Int64)) + (1 : Int64))))) + (1 : Int64)))) else (((100 : Int64) + (q2 &&& (65535 : Int64))) + (q3 &&& (268435455 : Int64)))) → own_Goes p e below s (Q0 Z i1 q2 q3 i4 i5 h0 n0) room_1.cells room_1.slots T26_2 (mkF m 88 #[.val (.int i1), .val (.long q2), .second, .val (.long q3), .second, .val (.int i4), .val (.int i5), .val (.long (3155760000000 : Int64)), .second, .val (.long (100 : Int64)), .second, .val (.long ((((i1 &&& (2147483647 : Int32)) % (100 : Int32)) + (1 : Int32)).toInt64)), .second, .val (.long v26_2_l13), .second, .val (.long v26_2_l15), .second, .unset, .unset, .unset, .unset, .unset, .unset, .unset] []) := by
    intro T26_2 v26_2_l13 v26_2_l15 X26_2 e26_2 hv26_2_0 hv26_2_1
    have hbm := own_bm _ _ _ _ _ hv26_2_0 hv26_2_1
    refine own_step (f' := (mkF m 90 #[.val (.int i1), .val (.long q2), .second, .val (.long q3), .second, .val (.int i4), .val (.int i5), .val (.long (3155760000000 : Int64)), .second, .val (.long (100 : Int64)), .second, .val (.long ((((i1 &&& (2147483647 : Int32)) % (100 : Int32)) + (1 : Int32)).toInt64)), .second, .val (.long v26_2_l13), .second, .val (.long v26_2_l15), .second, .unset, .unset, .unset, .unset, .unset, .unset, .unset] [(.int i5)])) (fun _ k => XS.iload X26_2.here hx rfl (hb hby at_88) rfl k) ?_
    refine own_step (f' := (mkF m 91 #[.val (.int i1), .val (.long q2), .second, .val (.long q3), .second, .val (.int i4), .val (.int i5), .val (.long (3155760000000 : Int64)), .second, .val (.long (100 : Int64)), .second, .val (.long ((((i1 &&& (2147483647 : Int32)) % (100 : Int32)) + (1 : Int32)).toInt64)), .second, .val (.long v26_2_l13), .second, .val (.long v26_2_l15), .second, .unset, .unset, .unset, .unset, .unset, .unset, .unset] [(.int (1 : Int32)), (.int i5)])) (fun _ k => XS.iconst X26_2.here hx rfl (hb hby at_90) k) ?_
    refine own_step (f' := (mkF m 92 #[.val (.int i1), .val (.long q2), .second, .val (.long q3), .second, .val (.int i4), .val (.int i5), .val (.long (3155760000000 : Int64)), .second, .val (.long (100 : Int64)), .second, .val (.long ((((i1 &&& (2147483647 : Int32)) % (100 : Int32)) + (1 : Int32)).toInt64)), .second, .val (.long v26_2_l13), .second, .val (.long v26_2_l15), .second, .unset, .unset, .unset, .unset, .unset, .unset, .unset] [(.int (i5 &&& (1 : Int32)))])) (fun _ k => XS.iand X26_2.here hx rfl (hb hby at_91) rfl k) ?_
    have J92_5 : ∀ (T92_5 : State) (v92_5_l17 : Int32), Stand p l e room_1 s m #[(.int i1), (.long q2), (.long q3), (.int i4), (.int i5)] below meth c T92_5 [] 0 0 → T92_5.heap = h0 → v92_5_l17 = (if (i5 &&& (1 : Int32)) = (0 : Int32) then (if (i4 &&& (2147483647 : Int32)) = (0 : Int32) then (1 : Int32) else (i4 &&& (2147483647 : Int32))) else ((i4 &&& (63 : Int32)) + (1 : Int32))) → own_Goes p e below s (Q0 Z i1 q2 q3 i4 i5 h0 n0) room_1.cells room_1.slots T92_5 (mkF m 122 #[.val (.int i1), .val (.long q2), .second, .val (.long q3), .second, .val (.int i4), .val (.int i5), .val (.long (3155760000000 : Int64)), .second, .val (.long (100 : Int64)), .second, .val (.long ((((i1 &&& (2147483647 : Int32)) % (100 : Int32)) + (1 : Int32)).toInt64)), .second, .val (.long v26_2_l13), .second, .val (.long v26_2_l15), .second, .val (.int v92_5_l17), .unset, .unset, .unset, .unset, .unset, .unset] []) := by
      intro T92_5 v92_5_l17 X92_5 e92_5 hv92_5_0
      have hk := own_k _ _ _ hv92_5_0
      have hP := own_prem _ _ _ (own_a i1) hbm.1 hbm.2
      obtain ⟨T6, h6, X6, e6, E6, A6, D6, -, st6⟩ := newO X92_5 hx hZ hown (hw _ (List.mem_of_getElem? (i := 5) rfl)) (hw _ (List.mem_of_getElem? (i := 6) rfl)) (hw _ (List.mem_of_getElem? (i := 7) rfl)) e92_5 (g := (mkF m 122 #[.val (.int i1), .val (.long q2), .second, .val (.long q3), .second, .val (.int i4), .val (.int i5), .val (.long (3155760000000 : Int64)), .second, .val (.long (100 : Int64)), .second, .val (.long ((((i1 &&& (2147483647 : Int32)) % (100 : Int32)) + (1 : Int32)).toInt64)), .second, .val (.long v26_2_l13), .second, .val (.long v26_2_l15), .second, .val (.int v92_5_l17), .unset, .unset, .unset, .unset, .unset, .unset] [])) rfl (hb hby at_122) (by decide) (by decide)
      obtain ⟨b6, g6⟩ : ∃ z, z = h0.size := ⟨_, rfl⟩
      rw [← g6] at A6 D6 st6
      have g_b6 : n0 ≤ b6 := Nat.le_trans Z0 (Nat.le_of_eq g6.symm)
      have F_maxAttempts_b6 : Fld Z h6 b6 "com/example/kookaburra/kookaburra/core/RetryPolicy" "maxAttempts" "I" (.int (0 : Int32)) := D6 (Or.inr (hw _ (List.mem_of_getElem? (i := 17) rfl))) (ty := .int) (by decide)
      have F_initialBackoffMillis_b6 : Fld Z h6 b6 "com/example/kookaburra/kookaburra/core/RetryPolicy" "initialBackoffMillis" "J" (.long (0 : Int64)) := D6 (Or.inr (hw _ (List.mem_of_getElem? (i := 19) rfl))) (ty := .long) (by decide)
      have F_maxBackoffMillis_b6 : Fld Z h6 b6 "com/example/kookaburra/kookaburra/core/RetryPolicy" "maxBackoffMillis" "J" (.long (0 : Int64)) := D6 (Or.inr (hw _ (List.mem_of_getElem? (i := 21) rfl))) (ty := .long) (by decide)
      refine own_step (f' := (mkF m 125 #[.val (.int i1), .val (.long q2), .second, .val (.long q3), .second, .val (.int i4), .val (.int i5), .val (.long (3155760000000 : Int64)), .second, .val (.long (100 : Int64)), .second, .val (.long ((((i1 &&& (2147483647 : Int32)) % (100 : Int32)) + (1 : Int32)).toInt64)), .second, .val (.long v26_2_l13), .second, .val (.long v26_2_l15), .second, .val (.int v92_5_l17), .unset, .unset, .unset, .unset, .unset, .unset] [(.ref b6)])) st6 ?_
      refine own_step (f' := (mkF m 126 #[.val (.int i1), .val (.long q2), .second, .val (.long q3), .second, .val (.int i4), .val (.int i5), .val (.long (3155760000000 : Int64)), .second, .val (.long (100 : Int64)), .second, .val (.long ((((i1 &&& (2147483647 : Int32)) % (100 : Int32)) + (1 : Int32)).toInt64)), .second, .val (.long v26_2_l13), .second, .val (.long v26_2_l15), .second, .val (.int v92_5_l17), .unset, .unset, .unset, .unset, .unset, .unset] [(.ref b6), (.ref b6)])) (fun _ k => XS.dup X6.here hx rfl (hb hby at_125) rfl rfl k) ?_
      refine own_step (f' := (mkF m 128 #[.val (.int i1), .val (.long q2), .second, .val (.long q3), .second, .val (.int i4), .val (.int i5), .val (.long (3155760000000 : Int64)), .second, .val (.long (100 : Int64)), .second, .val (.long ((((i1 &&& (2147483647 : Int32)) % (100 : Int32)) + (1 : Int32)).toInt64)), .second, .val (.long v26_2_l13), .second, .val (.long v26_2_l15), .second, .val (.int v92_5_l17), .unset, .unset, .unset, .unset, .unset, .unset] [(.long ((((i1 &&& (2147483647 : Int32)) % (100 : Int32)) + (1 : Int32)).toInt64)), (.ref b6), (.ref b6)])) (fun _ k => XS.lload X6.here hx rfl (hb hby at_126) rfl k) ?_
      refine own_step (f' := (mkF m 130 #[.val (.int i1), .val (.long q2), .second, .val (.long q3), .second, .val (.int i4), .val (.int i5), .val (.long (3155760000000 : Int64)), .second, .val (.long (100 : Int64)), .second, .val (.long ((((i1 &&& (2147483647 : Int32)) % (100 : Int32)) + (1 : Int32)).toInt64)), .second, .val (.long v26_2_l13), .second, .val (.long v26_2_l15), .second, .val (.int v92_5_l17), .unset, .unset, .unset, .unset, .unset, .unset] [(.long v26_2_l13), (.long ((((i1 &&& (2147483647 : Int32)) % (100 : Int32)) + (1 : Int32)).toInt64)), (.ref b6), (.ref b6)])) (fun _ k => XS.lload X6.here hx rfl (hb hby at_128) rfl k) ?_
      refine own_step (f' := (mkF m 132 #[.val (.int i1), .val (.long q2), .second, .val (.long q3), .second, .val (.int i4), .val (.int i5), .val (.long (3155760000000 : Int64)), .second, .val (.long (100 : Int64)), .second, .val (.long ((((i1 &&& (2147483647 : Int32)) % (100 : Int32)) + (1 : Int32)).toInt64)), .second, .val (.long v26_2_l13), .second, .val (.long v26_2_l15), .second, .val (.int v92_5_l17), .unset, .unset, .unset, .unset, .unset, .unset] [(.long v26_2_l15), (.long v26_2_l13), (.long ((((i1 &&& (2147483647 : Int32)) % (100 : Int32)) + (1 : Int32)).toInt64)), (.ref b6), (.ref b6)])) (fun _ k => XS.lload X6.here hx rfl (hb hby at_130) rfl k) ?_
      have hp7_hp1 : ¬ (((((i1 &&& (2147483647 : Int32)) % (100 : Int32)) + (1 : Int32)).toInt64) < (1 : Int64)) := hP.1
      have hp7_hp2 : ¬ ((100 : Int64) < ((((i1 &&& (2147483647 : Int32)) % (100 : Int32)) + (1 : Int32)).toInt64)) := hP.2.1
      have hp7_hp3 : ¬ (v26_2_l13 < (100 : Int64)) := hP.2.2.1
      have hp7_hp4 : ¬ ((3155760000000 : Int64) < v26_2_l13) := hP.2.2.2.1
      have hp7_hp5 : ¬ (v26_2_l15 < v26_2_l13) := hP.2.2.2.2.1
      have hp7_hp6 : ¬ ((3155760000000 : Int64) < v26_2_l15) := hP.2.2.2.2.2
      have Zq7 : n0 ≤ h6.size := (Nat.le_trans Z0 E6.1)
      obtain ⟨_, _, ⟨T7, L7, k7, n7⟩, -, X7, ⟨Lc7, hQ7, l7, y7, z7⟩, st7⟩ := X6.specialBack hx (y := (⟨"com/example/kookaburra/kookaburra/core/RetryPolicy", "<init>", "(JJJ)V"⟩ : MethodName)) rfl hown (mvT hZ (hw _ (List.mem_of_getElem? (i := 8) rfl))) (mvT hZ (hw _ (List.mem_of_getElem? (i := 9) rfl))) (mvT hZ (hw _ (List.mem_of_getElem? (i := 10) rfl))) (by decide) (backOf (W := 1) (rm1 l Z a0 hw [] b6 ((((i1 &&& (2147483647 : Int32)) % (100 : Int32)) + (1 : Int32)).toInt64) v26_2_l13 v26_2_l15 (.int (0 : Int32)) (.long (0 : Int64)) (.long (0 : Int64)) h6 n0 Zq7 A6 F_maxAttempts_b6 F_initialBackoffMillis_b6 F_maxBackoffMillis_b6 g_b6 hp7_hp1 hp7_hp2 hp7_hp3 hp7_hp4 hp7_hp5 hp7_hp6) hZ (hw _ (List.mem_of_getElem? (i := 10) rfl)) (hw _ (List.mem_of_getElem? (i := 7) rfl)) (by decide) (by decide)) (g := (mkF m 132 #[.val (.int i1), .val (.long q2), .second, .val (.long q3), .second, .val (.int i4), .val (.int i5), .val (.long (3155760000000 : Int64)), .second, .val (.long (100 : Int64)), .second, .val (.long ((((i1 &&& (2147483647 : Int32)) % (100 : Int32)) + (1 : Int32)).toInt64)), .second, .val (.long v26_2_l13), .second, .val (.long v26_2_l15), .second, .val (.int v92_5_l17), .unset, .unset, .unset, .unset, .unset, .unset] [(.long v26_2_l15), (.long v26_2_l13), (.long ((((i1 &&& (2147483647 : Int32)) % (100 : Int32)) + (1 : Int32)).toInt64)), (.ref b6), (.ref b6)])) rfl (by rw [hml]; rfl) (Steps.refl _) (a := b6) (argsL := [(.long ((((i1 &&& (2147483647 : Int32)) % (100 : Int32)) + (1 : Int32)).toInt64)), (.long v26_2_l13), (.long v26_2_l15)]) (rest := [(.ref b6)]) (lenOf pd_1 rfl) rfl (by show 2 * 0 + _ ≤ _; exact Nat.le_of_eq rfl) (hb hby at_132) (fun _ _ => ⟨rfl, e6, (by decide : 1 + 0 ≤ _), (by decide : 3 + 0 ≤ _)⟩)
      dsimp only [Pt.U, Pt.locs, Pt.cells, Pt.slots] at X7 l7 y7 z7 st7 hQ7
      subst l7 y7 z7
      obtain ⟨rfl, Nq7, K7, P7_0, P7_1, P7_2, P7_3⟩ := hQ7
      obtain ⟨Lo7, X7, N7⟩ : ∃ K, Stand p l e room_1 s m #[(.int i1), (.long q2), (.long q3), (.int i4), (.int i5)] below meth c T7 K 1 3 ∧ Fr n0 K := ⟨_, X7, (Fr.app N0 Nq7)⟩
      refine own_jump (f' := (mkF m 135 #[.val (.int i1), .val (.long q2), .second, .val (.long q3), .second, .val (.int i4), .val (.int i5), .val (.long (3155760000000 : Int64)), .second, .val (.long (100 : Int64)), .second, .val (.long ((((i1 &&& (2147483647 : Int32)) % (100 : Int32)) + (1 : Int32)).toInt64)), .second, .val (.long v26_2_l13), .second, .val (.long v26_2_l15), .second, .val (.int v92_5_l17), .unset, .unset, .unset, .unset, .unset, .unset] [(.ref b6)])) st7 ?_
      refine own_step (f' := (mkF m 137 #[.val (.int i1), .val (.long q2), .second, .val (.long q3), .second, .val (.int i4), .val (.int i5), .val (.long (3155760000000 : Int64)), .second, .val (.long (100 : Int64)), .second, .val (.long ((((i1 &&& (2147483647 : Int32)) % (100 : Int32)) + (1 : Int32)).toInt64)), .second, .val (.long v26_2_l13), .second, .val (.long v26_2_l15), .second, .val (.int v92_5_l17), .val (.ref b6), .unset, .unset, .unset, .unset, .unset] [])) (fun _ k => XS.astore X7.here hx rfl (hb hby at_135) rfl rfl (l' := #[.val (.int i1), .val (.long q2), .second, .val (.long q3), .second, .val (.int i4), .val (.int i5), .val (.long (3155760000000 : Int64)), .second, .val (.long (100 : Int64)), .second, .val (.long ((((i1 &&& (2147483647 : Int32)) % (100 : Int32)) + (1 : Int32)).toInt64)), .second, .val (.long v26_2_l13), .second, .val (.long v26_2_l15), .second, .val (.int v92_5_l17), .val (.ref b6), .unset, .unset, .unset, .unset, .unset]) rfl k) ?_
      refine own_step (f' := (mkF m 139 #[.val (.int i1), .val (.long q2), .second, .val (.long q3), .second, .val (.int i4), .val (.int i5), .val (.long (3155760000000 : Int64)), .second, .val (.long (100 : Int64)), .second, .val (.long ((((i1 &&& (2147483647 : Int32)) % (100 : Int32)) + (1 : Int32)).toInt64)), .second, .val (.long v26_2_l13), .second, .val (.long v26_2_l15), .second, .val (.int v92_5_l17), .val (.ref b6), .unset, .unset, .unset, .unset, .unset] [(.ref b6)])) (fun _ k => XS.aload X7.here hx rfl (hb hby at_137) rfl rfl k) ?_
      refine own_step (f' := (mkF m 141 #[.val (.int i1), .val (.long q2), .second, .val (.long q3), .second, .val (.int i4), .val (.int i5), .val (.long (3155760000000 : Int64)), .second, .val (.long (100 : Int64)), .second, .val (.long ((((i1 &&& (2147483647 : Int32)) % (100 : Int32)) + (1 : Int32)).toInt64)), .second, .val (.long v26_2_l13), .second, .val (.long v26_2_l15), .second, .val (.int v92_5_l17), .val (.ref b6), .unset, .unset, .unset, .unset, .unset] [(.int v92_5_l17), (.ref b6)])) (fun _ k => XS.iload X7.here hx rfl (hb hby at_139) rfl k) ?_
      have hp8_hk : ¬ (v92_5_l17 < (1 : Int32)) := hk
      have hp8_hB : 1 ≤ v26_2_l13.toInt ∧ v26_2_l13.toInt ≤ v26_2_l15.toInt ∧ v26_2_l15.toInt ≤ 4611686018427387903 := (by have := hbm; omega)
      have Zq8 : n0 ≤ T7.heap.size := (Nat.le_trans (Nat.le_trans Z0 E6.1) K7.1)
      obtain ⟨cq8, kq8, q8a, q8b, q8c⟩ := isOf hZ rfl P7_0
      obtain ⟨_, _, ⟨T8, L8, k8, n8⟩, -, X8, ⟨Lc8, hQ8, l8, y8, z8⟩, st8⟩ := X7.virtualBack hx (y := (⟨"com/example/kookaburra/kookaburra/core/RetryPolicy", "backoffCapMillis", "(I)J"⟩ : MethodName)) (z := (⟨"com/example/kookaburra/kookaburra/core/RetryPolicy", "backoffCapMillis", "(I)J"⟩ : MethodName)) hown (mvT hZ (hw _ (List.mem_of_getElem? (i := 22) rfl))) (mvT hZ (hw _ (List.mem_of_getElem? (i := 23) rfl))) (notFace_of_selects (args := #[]) (mvT hZ (hw _ (List.mem_of_getElem? (i := 25) rfl)))) (mvT hZ (hw _ (List.mem_of_getElem? (i := 25) rfl))) (mvT hZ (hw _ (List.mem_of_getElem? (i := 24) rfl))) (by decide) (backOf (W := 0) (rm3 l Z a0 hw [] b6 v92_5_l17 v26_2_l13 v26_2_l15 T7.heap n0 Zq8 P7_2 P7_3 hp8_hk hp8_hB) hZ (hw _ (List.mem_of_getElem? (i := 26) rfl)) (hw _ (List.mem_of_getElem? (i := 7) rfl)) (by decide) (by decide)) q8a q8c (g := (mkF m 141 #[.val (.int i1), .val (.long q2), .second, .val (.long q3), .second, .val (.int i4), .val (.int i5), .val (.long (3155760000000 : Int64)), .second, .val (.long (100 : Int64)), .second, .val (.long ((((i1 &&& (2147483647 : Int32)) % (100 : Int32)) + (1 : Int32)).toInt64)), .second, .val (.long v26_2_l13), .second, .val (.long v26_2_l15), .second, .val (.int v92_5_l17), .val (.ref b6), .unset, .unset, .unset, .unset, .unset] [(.int v92_5_l17), (.ref b6)])) rfl (by rw [hml]; rfl) (Steps.refl _) (argsL := [(.int v92_5_l17)]) (rest := []) (lenOf pd_2 rfl) rfl (by show 2 * 0 + _ ≤ _; exact Nat.le_of_eq rfl) (hb hby at_141) (fun _ _ => ⟨rfl, rfl, (by decide : 1 + 0 ≤ _), (by decide : 3 + 0 ≤ _)⟩)
      dsimp only [Pt.U, Pt.locs, Pt.cells, Pt.slots] at X8 l8 y8 z8 st8 hQ8
      subst l8 y8 z8
      obtain ⟨rfl, rfl, e8⟩ := hQ8
      try rw [List.append_nil] at X8
      refine own_jump (f' := (mkF m 144 #[.val (.int i1), .val (.long q2), .second, .val (.long q3), .second, .val (.int i4), .val (.int i5), .val (.long (3155760000000 : Int64)), .second, .val (.long (100 : Int64)), .second, .val (.long ((((i1 &&& (2147483647 : Int32)) % (100 : Int32)) + (1 : Int32)).toInt64)), .second, .val (.long v26_2_l13), .second, .val (.long v26_2_l15), .second, .val (.int v92_5_l17), .val (.ref b6), .unset, .unset, .unset, .unset, .unset] [(.long (Int64.ofInt (own_cap v26_2_l13.toInt v26_2_l15.toInt (v92_5_l17.toInt - 1).toNat)))])) st8 ?_
      refine own_step (f' := (mkF m 146 #[.val (.int i1), .val (.long q2), .second, .val (.long q3), .second, .val (.int i4), .val (.int i5), .val (.long (3155760000000 : Int64)), .second, .val (.long (100 : Int64)), .second, .val (.long ((((i1 &&& (2147483647 : Int32)) % (100 : Int32)) + (1 : Int32)).toInt64)), .second, .val (.long v26_2_l13), .second, .val (.long v26_2_l15), .second, .val (.int v92_5_l17), .val (.ref b6), .val (.long (Int64.ofInt (own_cap v26_2_l13.toInt v26_2_l15.toInt (v92_5_l17.toInt - 1).toNat))), .second, .unset, .unset, .unset] [])) (fun _ k => XS.lstore X8.here hx rfl (hb hby at_144) rfl (l' := #[.val (.int i1), .val (.long q2), .second, .val (.long q3), .second, .val (.int i4), .val (.int i5), .val (.long (3155760000000 : Int64)), .second, .val (.long (100 : Int64)), .second, .val (.long ((((i1 &&& (2147483647 : Int32)) % (100 : Int32)) + (1 : Int32)).toInt64)), .second, .val (.long v26_2_l13), .second, .val (.long v26_2_l15), .second, .val (.int v92_5_l17), .val (.ref b6), .val (.long (Int64.ofInt (own_cap v26_2_l13.toInt v26_2_l15.toInt (v92_5_l17.toInt - 1).toNat))), .second, .unset, .unset, .unset]) rfl k) ?_
      refine own_step (f' := (mkF m 148 #[.val (.int i1), .val (.long q2), .second, .val (.long q3), .second, .val (.int i4), .val (.int i5), .val (.long (3155760000000 : Int64)), .second, .val (.long (100 : Int64)), .second, .val (.long ((((i1 &&& (2147483647 : Int32)) % (100 : Int32)) + (1 : Int32)).toInt64)), .second, .val (.long v26_2_l13), .second, .val (.long v26_2_l15), .second, .val (.int v92_5_l17), .val (.ref b6), .val (.long (Int64.ofInt (own_cap v26_2_l13.toInt v26_2_l15.toInt (v92_5_l17.toInt - 1).toNat))), .second, .unset, .unset, .unset] [(.int v92_5_l17)])) (fun _ k => XS.iload X8.here hx rfl (hb hby at_146) rfl k) ?_
      refine own_step (f' := (mkF m 149 #[.val (.int i1), .val (.long q2), .second, .val (.long q3), .second, .val (.int i4), .val (.int i5), .val (.long (3155760000000 : Int64)), .second, .val (.long (100 : Int64)), .second, .val (.long ((((i1 &&& (2147483647 : Int32)) % (100 : Int32)) + (1 : Int32)).toInt64)), .second, .val (.long v26_2_l13), .second, .val (.long v26_2_l15), .second, .val (.int v92_5_l17), .val (.ref b6), .val (.long (Int64.ofInt (own_cap v26_2_l13.toInt v26_2_l15.toInt (v92_5_l17.toInt - 1).toNat))), .second, .unset, .unset, .unset] [(.int (1 : Int32)), (.int v92_5_l17)])) (fun _ k => XS.iconst X8.here hx rfl (hb hby at_148) k) ?_
      refine own_step (f' := (mkF m 150 #[.val (.int i1), .val (.long q2), .second, .val (.long q3), .second, .val (.int i4), .val (.int i5), .val (.long (3155760000000 : Int64)), .second, .val (.long (100 : Int64)), .second, .val (.long ((((i1 &&& (2147483647 : Int32)) % (100 : Int32)) + (1 : Int32)).toInt64)), .second, .val (.long v26_2_l13), .second, .val (.long v26_2_l15), .second, .val (.int v92_5_l17), .val (.ref b6), .val (.long (Int64.ofInt (own_cap v26_2_l13.toInt v26_2_l15.toInt (v92_5_l17.toInt - 1).toNat))), .second, .unset, .unset, .unset] [(.int (v92_5_l17 - (1 : Int32)))])) (fun _ k => XS.isub X8.here hx rfl (hb hby at_149) rfl k) ?_
      refine own_step (f' := (mkF m 152 #[.val (.int i1), .val (.long q2), .second, .val (.long q3), .second, .val (.int i4), .val (.int i5), .val (.long (3155760000000 : Int64)), .second, .val (.long (100 : Int64)), .second, .val (.long ((((i1 &&& (2147483647 : Int32)) % (100 : Int32)) + (1 : Int32)).toInt64)), .second, .val (.long v26_2_l13), .second, .val (.long v26_2_l15), .second, .val (.int v92_5_l17), .val (.ref b6), .val (.long (Int64.ofInt (own_cap v26_2_l13.toInt v26_2_l15.toInt (v92_5_l17.toInt - 1).toNat))), .second, .unset, .unset, .unset] [(.int (62 : Int32)), (.int (v92_5_l17 - (1 : Int32)))])) (fun _ k => XS.bipush X8.here hx rfl (hb hby at_150) k) ?_
      have Zq9 : n0 ≤ T7.heap.size := (Nat.le_trans (Nat.le_trans Z0 E6.1) K7.1)
      obtain ⟨_, _, ⟨T9, L9, k9, n9⟩, -, X9, ⟨Lc9, hQ9, l9, y9, z9⟩, st9⟩ := Jvm.LawKit.callS X8 hx (y := (⟨"java/lang/Math", "min", "(II)I"⟩ : MethodName)) hown (mvT hZ (hw _ (List.mem_of_getElem? (i := 27) rfl))) (mvT hZ (hw _ (List.mem_of_getElem? (i := 28) rfl))) (mvT hZ (hw _ (List.mem_of_getElem? (i := 29) rfl))) (mvT hZ (hw _ (List.mem_of_getElem? (i := 30) rfl))) (by decide) (backOf (W := 0) (rm4 l Z a0 hw [] (v92_5_l17 - (1 : Int32)) (62 : Int32) T7.heap n0 Zq9 ) hZ (hw _ (List.mem_of_getElem? (i := 30) rfl)) (hw _ (List.mem_of_getElem? (i := 29) rfl)) (by decide) (by decide)) (g := (mkF m 152 #[.val (.int i1), .val (.long q2), .second, .val (.long q3), .second, .val (.int i4), .val (.int i5), .val (.long (3155760000000 : Int64)), .second, .val (.long (100 : Int64)), .second, .val (.long ((((i1 &&& (2147483647 : Int32)) % (100 : Int32)) + (1 : Int32)).toInt64)), .second, .val (.long v26_2_l13), .second, .val (.long v26_2_l15), .second, .val (.int v92_5_l17), .val (.ref b6), .val (.long (Int64.ofInt (own_cap v26_2_l13.toInt v26_2_l15.toInt (v92_5_l17.toInt - 1).toNat))), .second, .unset, .unset, .unset] [(.int (62 : Int32)), (.int (v92_5_l17 - (1 : Int32)))])) rfl (by rw [hml]; rfl) (argsL := [(.int (v92_5_l17 - (1 : Int32))), (.int (62 : Int32))]) (rest := []) (lenOf pd_3 rfl) rfl (by show 2 * 0 + _ ≤ _; exact Nat.le_of_eq rfl) (hb hby at_152) (fun _ _ => ⟨rfl, e8, (by decide : 1 + 0 ≤ _), (by decide : 3 + 0 ≤ _)⟩)
      dsimp only [Pt.U, Pt.locs, Pt.cells, Pt.slots] at X9 l9 y9 z9 st9 hQ9
      subst l9 y9 z9
      obtain ⟨rfl, rfl, e9⟩ := hQ9
      try rw [List.append_nil] at X9
      refine own_step (f' := (mkF m 155 #[.val (.int i1), .val (.long q2), .second, .val (.long q3), .second, .val (.int i4), .val (.int i5), .val (.long (3155760000000 : Int64)), .second, .val (.long (100 : Int64)), .second, .val (.long ((((i1 &&& (2147483647 : Int32)) % (100 : Int32)) + (1 : Int32)).toInt64)), .second, .val (.long v26_2_l13), .second, .val (.long v26_2_l15), .second, .val (.int v92_5_l17), .val (.ref b6), .val (.long (Int64.ofInt (own_cap v26_2_l13.toInt v26_2_l15.toInt (v92_5_l17.toInt - 1).toNat))), .second, .unset, .unset, .unset] [(.int (own_min (v92_5_l17 - (1 : Int32)) (62 : Int32)))])) st9 ?_
      refine own_step (f' := (mkF m 157 #[.val (.int i1), .val (.long q2), .second, .val (.long q3), .second, .val (.int i4), .val (.int i5), .val (.long (3155760000000 : Int64)), .second, .val (.long (100 : Int64)), .second, .val (.long ((((i1 &&& (2147483647 : Int32)) % (100 : Int32)) + (1 : Int32)).toInt64)), .second, .val (.long v26_2_l13), .second, .val (.long v26_2_l15), .second, .val (.int v92_5_l17), .val (.ref b6), .val (.long (Int64.ofInt (own_cap v26_2_l13.toInt v26_2_l15.toInt (v92_5_l17.toInt - 1).toNat))), .second, .val (.int (own_min (v92_5_l17 - (1 : Int32)) (62 : Int32))), .unset, .unset] [])) (fun _ k => XS.istore X9.here hx rfl (hb hby at_155) rfl (l' := #[.val (.int i1), .val (.long q2), .second, .val (.long q3), .second, .val (.int i4), .val (.int i5), .val (.long (3155760000000 : Int64)), .second, .val (.long (100 : Int64)), .second, .val (.long ((((i1 &&& (2147483647 : Int32)) % (100 : Int32)) + (1 : Int32)).toInt64)), .second, .val (.long v26_2_l13), .second, .val (.long v26_2_l15), .second, .val (.int v92_5_l17), .val (.ref b6), .val (.long (Int64.ofInt (own_cap v26_2_l13.toInt v26_2_l15.toInt (v92_5_l17.toInt - 1).toNat))), .second, .val (.int (own_min (v92_5_l17 - (1 : Int32)) (62 : Int32))), .unset, .unset]) rfl k) ?_
      refine own_step (f' := (mkF m 159 #[.val (.int i1), .val (.long q2), .second, .val (.long q3), .second, .val (.int i4), .val (.int i5), .val (.long (3155760000000 : Int64)), .second, .val (.long (100 : Int64)), .second, .val (.long ((((i1 &&& (2147483647 : Int32)) % (100 : Int32)) + (1 : Int32)).toInt64)), .second, .val (.long v26_2_l13), .second, .val (.long v26_2_l15), .second, .val (.int v92_5_l17), .val (.ref b6), .val (.long (Int64.ofInt (own_cap v26_2_l13.toInt v26_2_l15.toInt (v92_5_l17.toInt - 1).toNat))), .second, .val (.int (own_min (v92_5_l17 - (1 : Int32)) (62 : Int32))), .unset, .unset] [(.long v26_2_l13)])) (fun _ k => XS.lload X9.here hx rfl (hb hby at_157) rfl k) ?_
      refine own_step (f' := (mkF m 161 #[.val (.int i1), .val (.long q2), .second, .val (.long q3), .second, .val (.int i4), .val (.int i5), .val (.long (3155760000000 : Int64)), .second, .val (.long (100 : Int64)), .second, .val (.long ((((i1 &&& (2147483647 : Int32)) % (100 : Int32)) + (1 : Int32)).toInt64)), .second, .val (.long v26_2_l13), .second, .val (.long v26_2_l15), .second, .val (.int v92_5_l17), .val (.ref b6), .val (.long (Int64.ofInt (own_cap v26_2_l13.toInt v26_2_l15.toInt (v92_5_l17.toInt - 1).toNat))), .second, .val (.int (own_min (v92_5_l17 - (1 : Int32)) (62 : Int32))), .unset, .unset] [(.long v26_2_l15), (.long v26_2_l13)])) (fun _ k => XS.lload X9.here hx rfl (hb hby at_159) rfl k) ?_
      refine own_step (f' := (mkF m 163 #[.val (.int i1), .val (.long q2), .second, .val (.long q3), .second, .val (.int i4), .val (.int i5), .val (.long (3155760000000 : Int64)), .second, .val (.long (100 : Int64)), .second, .val (.long ((((i1 &&& (2147483647 : Int32)) % (100 : Int32)) + (1 : Int32)).toInt64)), .second, .val (.long v26_2_l13), .second, .val (.long v26_2_l15), .second, .val (.int v92_5_l17), .val (.ref b6), .val (.long (Int64.ofInt (own_cap v26_2_l13.toInt v26_2_l15.toInt (v92_5_l17.toInt - 1).toNat))), .second, .val (.int (own_min (v92_5_l17 - (1 : Int32)) (62 : Int32))), .unset, .unset] [(.int (own_min (v92_5_l17 - (1 : Int32)) (62 : Int32))), (.long v26_2_l15), (.long v26_2_l13)])) (fun _ k => XS.iload X9.here hx rfl (hb hby at_161) rfl k) ?_
      refine own_step (f' := (mkF m 164 #[.val (.int i1), .val (.long q2), .second, .val (.long q3), .second, .val (.int i4), .val (.int i5), .val (.long (3155760000000 : Int64)), .second, .val (.long (100 : Int64)), .second, .val (.long ((((i1 &&& (2147483647 : Int32)) % (100 : Int32)) + (1 : Int32)).toInt64)), .second, .val (.long v26_2_l13), .second, .val (.long v26_2_l15), .second, .val (.int v92_5_l17), .val (.ref b6), .val (.long (Int64.ofInt (own_cap v26_2_l13.toInt v26_2_l15.toInt (v92_5_l17.toInt - 1).toNat))), .second, .val (.int (own_min (v92_5_l17 - (1 : Int32)) (62 : Int32))), .unset, .unset] [(.long (v26_2_l15 >>> ((own_min (v92_5_l17 - (1 : Int32)) (62 : Int32)) &&& 0x3f).toInt64)), (.long v26_2_l13)])) (fun _ k => XS.lshr X9.here hx rfl (hb hby at_163) rfl k) ?_
      refine own_step (f' := (mkF m 165 #[.val (.int i1), .val (.long q2), .second, .val (.long q3), .second, .val (.int i4), .val (.int i5), .val (.long (3155760000000 : Int64)), .second, .val (.long (100 : Int64)), .second, .val (.long ((((i1 &&& (2147483647 : Int32)) % (100 : Int32)) + (1 : Int32)).toInt64)), .second, .val (.long v26_2_l13), .second, .val (.long v26_2_l15), .second, .val (.int v92_5_l17), .val (.ref b6), .val (.long (Int64.ofInt (own_cap v26_2_l13.toInt v26_2_l15.toInt (v92_5_l17.toInt - 1).toNat))), .second, .val (.int (own_min (v92_5_l17 - (1 : Int32)) (62 : Int32))), .unset, .unset] [(.int (lcmpW v26_2_l13 (v26_2_l15 >>> ((own_min (v92_5_l17 - (1 : Int32)) (62 : Int32)) &&& 0x3f).toInt64)))])) (fun _ k => XS.lcmp X9.here hx rfl (hb hby at_164) rfl k) ?_
      have J165_11 : ∀ (T165_11 : State) (v165_11_l22 : Int64), Stand p l e room_1 s m #[(.int i1), (.long q2), (.long q3), (.int i4), (.int i5)] below meth c T165_11 Lo7 1 3 → T165_11.heap = T7.heap → v165_11_l22 = (if (v26_2_l15 >>> ((own_min (v92_5_l17 - (1 : Int32)) (62 : Int32)) &&& 0x3f).toInt64) < v26_2_l13 then v26_2_l15 else (v26_2_l13 <<< ((own_min (v92_5_l17 - (1 : Int32)) (62 : Int32)) &&& 0x3f).toInt64)) → own_Goes p e below s (Q0 Z i1 q2 q3 i4 i5 h0 n0) room_1.cells room_1.slots T165_11 (mkF m 182 #[.val (.int i1), .val (.long q2), .second, .val (.long q3), .second, .val (.int i4), .val (.int i5), .val (.long (3155760000000 : Int64)), .second, .val (.long (100 : Int64)), .second, .val (.long ((((i1 &&& (2147483647 : Int32)) % (100 : Int32)) + (1 : Int32)).toInt64)), .second, .val (.long v26_2_l13), .second, .val (.long v26_2_l15), .second, .val (.int v92_5_l17), .val (.ref b6), .val (.long (Int64.ofInt (own_cap v26_2_l13.toInt v26_2_l15.toInt (v92_5_l17.toInt - 1).toNat))), .second, .val (.int (own_min (v92_5_l17 - (1 : Int32)) (62 : Int32))), .val (.long v165_11_l22), .second] []) := by
        intro T165_11 v165_11_l22 X165_11 e165_11 hv165_11_0
        have hfin := own_fin _ _ _ _ hk hbm.1 hbm.2 hv165_11_0
        refine own_step (f' := (mkF m 184 #[.val (.int i1), .val (.long q2), .second, .val (.long q3), .second, .val (.int i4), .val (.int i5), .val (.long (3155760000000 : Int64)), .second, .val (.long (100 : Int64)), .second, .val (.long ((((i1 &&& (2147483647 : Int32)) % (100 : Int32)) + (1 : Int32)).toInt64)), .second, .val (.long v26_2_l13), .second, .val (.long v26_2_l15), .second, .val (.int v92_5_l17), .val (.ref b6), .val (.long (Int64.ofInt (own_cap v26_2_l13.toInt v26_2_l15.toInt (v92_5_l17.toInt - 1).toNat))), .second, .val (.int (own_min (v92_5_l17 - (1 : Int32)) (62 : Int32))), .val (.long v165_11_l22), .second] [(.long (Int64.ofInt (own_cap v26_2_l13.toInt v26_2_l15.toInt (v92_5_l17.toInt - 1).toNat)))])) (fun _ k => XS.lload X165_11.here hx rfl (hb hby at_182) rfl k) ?_
        refine own_step (f' := (mkF m 186 #[.val (.int i1), .val (.long q2), .second, .val (.long q3), .second, .val (.int i4), .val (.int i5), .val (.long (3155760000000 : Int64)), .second, .val (.long (100 : Int64)), .second, .val (.long ((((i1 &&& (2147483647 : Int32)) % (100 : Int32)) + (1 : Int32)).toInt64)), .second, .val (.long v26_2_l13), .second, .val (.long v26_2_l15), .second, .val (.int v92_5_l17), .val (.ref b6), .val (.long (Int64.ofInt (own_cap v26_2_l13.toInt v26_2_l15.toInt (v92_5_l17.toInt - 1).toNat))), .second, .val (.int (own_min (v92_5_l17 - (1 : Int32)) (62 : Int32))), .val (.long v165_11_l22), .second] [(.long v165_11_l22), (.long (Int64.ofInt (own_cap v26_2_l13.toInt v26_2_l15.toInt (v92_5_l17.toInt - 1).toNat)))])) (fun _ k => XS.lload X165_11.here hx rfl (hb hby at_184) rfl k) ?_
        refine own_step (f' := (mkF m 187 #[.val (.int i1), .val (.long q2), .second, .val (.long q3), .second, .val (.int i4), .val (.int i5), .val (.long (3155760000000 : Int64)), .second, .val (.long (100 : Int64)), .second, .val (.long ((((i1 &&& (2147483647 : Int32)) % (100 : Int32)) + (1 : Int32)).toInt64)), .second, .val (.long v26_2_l13), .second, .val (.long v26_2_l15), .second, .val (.int v92_5_l17), .val (.ref b6), .val (.long (Int64.ofInt (own_cap v26_2_l13.toInt v26_2_l15.toInt (v92_5_l17.toInt - 1).toNat))), .second, .val (.int (own_min (v92_5_l17 - (1 : Int32)) (62 : Int32))), .val (.long v165_11_l22), .second] [(.int (lcmpW (Int64.ofInt (own_cap v26_2_l13.toInt v26_2_l15.toInt (v92_5_l17.toInt - 1).toNat)) v165_11_l22))])) (fun _ k => XS.lcmp X165_11.here hx rfl (hb hby at_186) rfl k) ?_
        have hf187_12 : (Int64.ofInt (own_cap v26_2_l13.toInt v26_2_l15.toInt (v92_5_l17.toInt - 1).toNat)) = v165_11_l22 := hfin
        refine own_step (f' := (mkF m 190 #[.val (.int i1), .val (.long q2), .second, .val (.long q3), .second, .val (.int i4), .val (.int i5), .val (.long (3155760000000 : Int64)), .second, .val (.long (100 : Int64)), .second, .val (.long ((((i1 &&& (2147483647 : Int32)) % (100 : Int32)) + (1 : Int32)).toInt64)), .second, .val (.long v26_2_l13), .second, .val (.long v26_2_l15), .second, .val (.int v92_5_l17), .val (.ref b6), .val (.long (Int64.ofInt (own_cap v26_2_l13.toInt v26_2_l15.toInt (v92_5_l17.toInt - 1).toNat))), .second, .val (.int (own_min (v92_5_l17 - (1 : Int32)) (62 : Int32))), .val (.long v165_11_l22), .second] [])) (fun _ k => XS.ifNo X165_11.here hx rfl (hb hby at_187) rfl ((if0 _ _).trans (teq ((lw_eq _ _).mpr hf187_12)).2) k) ?_
        refine own_step (f' := (mkF m 191 #[.val (.int i1), .val (.long q2), .second, .val (.long q3), .second, .val (.int i4), .val (.int i5), .val (.long (3155760000000 : Int64)), .second, .val (.long (100 : Int64)), .second, .val (.long ((((i1 &&& (2147483647 : Int32)) % (100 : Int32)) + (1 : Int32)).toInt64)), .second, .val (.long v26_2_l13), .second, .val (.long v26_2_l15), .second, .val (.int v92_5_l17), .val (.ref b6), .val (.long (Int64.ofInt (own_cap v26_2_l13.toInt v26_2_l15.toInt (v92_5_l17.toInt - 1).toNat))), .second, .val (.int (own_min (v92_5_l17 - (1 : Int32)) (62 : Int32))), .val (.long v165_11_l22), .second] [(.int (1 : Int32))])) (fun _ k => XS.iconst X165_11.here hx rfl (hb hby at_190) k) ?_
        refine own_step (f' := (mkF m 195 #[.val (.int i1), .val (.long q2), .second, .val (.long q3), .second, .val (.int i4), .val (.int i5), .val (.long (3155760000000 : Int64)), .second, .val (.long (100 : Int64)), .second, .val (.long ((((i1 &&& (2147483647 : Int32)) % (100 : Int32)) + (1 : Int32)).toInt64)), .second, .val (.long v26_2_l13), .second, .val (.long v26_2_l15), .second, .val (.int v92_5_l17), .val (.ref b6), .val (.long (Int64.ofInt (own_cap v26_2_l13.toInt v26_2_l15.toInt (v92_5_l17.toInt - 1).toNat))), .second, .val (.int (own_min (v92_5_l17 - (1 : Int32)) (62 : Int32))), .val (.long v165_11_l22), .second] [(.int (1 : Int32))])) (fun _ k => XS.goto X165_11.here hx rfl (pc0 := 191) (pc' := 195) rfl (hb hby at_191) (by decide) (by decide) k) ?_
        refine own_out (v := some (.int (1 : Int32))) X165_11 hlk (fun h => by rw [Bd.returns] at h; cases h) (fun fs hr => retN X165_11 hx (t := .boolean) Bd.returns (by simp) (hb hby at_195) hr) (by decide) (by decide) ?_
        exact ⟨rfl, N7⟩
      by_cases hc165_10 : (v26_2_l15 >>> ((own_min (v92_5_l17 - (1 : Int32)) (62 : Int32)) &&& 0x3f).toInt64) < v26_2_l13
      · refine own_step (f' := (mkF m 178 #[.val (.int i1), .val (.long q2), .second, .val (.long q3), .second, .val (.int i4), .val (.int i5), .val (.long (3155760000000 : Int64)), .second, .val (.long (100 : Int64)), .second, .val (.long ((((i1 &&& (2147483647 : Int32)) % (100 : Int32)) + (1 : Int32)).toInt64)), .second, .val (.long v26_2_l13), .second, .val (.long v26_2_l15), .second, .val (.int v92_5_l17), .val (.ref b6), .val (.long (Int64.ofInt (own_cap v26_2_l13.toInt v26_2_l15.toInt (v92_5_l17.toInt - 1).toNat))), .second, .val (.int (own_min (v92_5_l17 - (1 : Int32)) (62 : Int32))), .unset, .unset] [])) (fun _ k => XS.ifYes X9.here hx rfl (pc0 := 165) (pc' := 178) rfl (hb hby at_165) rfl ((if0 _ _).trans (tlt ((lw_gt _ _).mpr hc165_10)).2.2.1) (by decide) (by decide) k) ?_
        refine own_step (f' := (mkF m 180 #[.val (.int i1), .val (.long q2), .second, .val (.long q3), .second, .val (.int i4), .val (.int i5), .val (.long (3155760000000 : Int64)), .second, .val (.long (100 : Int64)), .second, .val (.long ((((i1 &&& (2147483647 : Int32)) % (100 : Int32)) + (1 : Int32)).toInt64)), .second, .val (.long v26_2_l13), .second, .val (.long v26_2_l15), .second, .val (.int v92_5_l17), .val (.ref b6), .val (.long (Int64.ofInt (own_cap v26_2_l13.toInt v26_2_l15.toInt (v92_5_l17.toInt - 1).toNat))), .second, .val (.int (own_min (v92_5_l17 - (1 : Int32)) (62 : Int32))), .unset, .unset] [(.long v26_2_l15)])) (fun _ k => XS.lload X9.here hx rfl (hb hby at_178) rfl k) ?_
        refine own_step (f' := (mkF m 182 #[.val (.int i1), .val (.long q2), .second, .val (.long q3), .second, .val (.int i4), .val (.int i5), .val (.long (3155760000000 : Int64)), .second, .val (.long (100 : Int64)), .second, .val (.long ((((i1 &&& (2147483647 : Int32)) % (100 : Int32)) + (1 : Int32)).toInt64)), .second, .val (.long v26_2_l13), .second, .val (.long v26_2_l15), .second, .val (.int v92_5_l17), .val (.ref b6), .val (.long (Int64.ofInt (own_cap v26_2_l13.toInt v26_2_l15.toInt (v92_5_l17.toInt - 1).toNat))), .second, .val (.int (own_min (v92_5_l17 - (1 : Int32)) (62 : Int32))), .val (.long v26_2_l15), .second] [])) (fun _ k => XS.lstore X9.here hx rfl (hb hby at_180) rfl (l' := #[.val (.int i1), .val (.long q2), .second, .val (.long q3), .second, .val (.int i4), .val (.int i5), .val (.long (3155760000000 : Int64)), .second, .val (.long (100 : Int64)), .second, .val (.long ((((i1 &&& (2147483647 : Int32)) % (100 : Int32)) + (1 : Int32)).toInt64)), .second, .val (.long v26_2_l13), .second, .val (.long v26_2_l15), .second, .val (.int v92_5_l17), .val (.ref b6), .val (.long (Int64.ofInt (own_cap v26_2_l13.toInt v26_2_l15.toInt (v92_5_l17.toInt - 1).toNat))), .second, .val (.int (own_min (v92_5_l17 - (1 : Int32)) (62 : Int32))), .val (.long v26_2_l15), .second]) rfl k) ?_
        exact J165_11 _ v26_2_l15 X9 e9 (by rw [if_pos hc165_10])
      · refine own_step (f' := (mkF m 168 #[.val (.int i1), .val (.long q2), .second, .val (.long q3), .second, .val (.int i4), .val (.int i5), .val (.long (3155760000000 : Int64)), .second, .val (.long (100 : Int64)), .second, .val (.long ((((i1 &&& (2147483647 : Int32)) % (100 : Int32)) + (1 : Int32)).toInt64)), .second, .val (.long v26_2_l13), .second, .val (.long v26_2_l15), .second, .val (.int v92_5_l17), .val (.ref b6), .val (.long (Int64.ofInt (own_cap v26_2_l13.toInt v26_2_l15.toInt (v92_5_l17.toInt - 1).toNat))), .second, .val (.int (own_min (v92_5_l17 - (1 : Int32)) (62 : Int32))), .unset, .unset] [])) (fun _ k => XS.ifNo X9.here hx rfl (hb hby at_165) rfl ((if0 _ _).trans (flt (fun q => hc165_10 ((lw_gt _ _).mp q))).2.2.1) k) ?_
        refine own_step (f' := (mkF m 170 #[.val (.int i1), .val (.long q2), .second, .val (.long q3), .second, .val (.int i4), .val (.int i5), .val (.long (3155760000000 : Int64)), .second, .val (.long (100 : Int64)), .second, .val (.long ((((i1 &&& (2147483647 : Int32)) % (100 : Int32)) + (1 : Int32)).toInt64)), .second, .val (.long v26_2_l13), .second, .val (.long v26_2_l15), .second, .val (.int v92_5_l17), .val (.ref b6), .val (.long (Int64.ofInt (own_cap v26_2_l13.toInt v26_2_l15.toInt (v92_5_l17.toInt - 1).toNat))), .second, .val (.int (own_min (v92_5_l17 - (1 : Int32)) (62 : Int32))), .unset, .unset] [(.long v26_2_l13)])) (fun _ k => XS.lload X9.here hx rfl (hb hby at_168) rfl k) ?_
        refine own_step (f' := (mkF m 172 #[.val (.int i1), .val (.long q2), .second, .val (.long q3), .second, .val (.int i4), .val (.int i5), .val (.long (3155760000000 : Int64)), .second, .val (.long (100 : Int64)), .second, .val (.long ((((i1 &&& (2147483647 : Int32)) % (100 : Int32)) + (1 : Int32)).toInt64)), .second, .val (.long v26_2_l13), .second, .val (.long v26_2_l15), .second, .val (.int v92_5_l17), .val (.ref b6), .val (.long (Int64.ofInt (own_cap v26_2_l13.toInt v26_2_l15.toInt (v92_5_l17.toInt - 1).toNat))), .second, .val (.int (own_min (v92_5_l17 - (1 : Int32)) (62 : Int32))), .unset, .unset] [(.int (own_min (v92_5_l17 - (1 : Int32)) (62 : Int32))), (.long v26_2_l13)])) (fun _ k => XS.iload X9.here hx rfl (hb hby at_170) rfl k) ?_
        refine own_step (f' := (mkF m 173 #[.val (.int i1), .val (.long q2), .second, .val (.long q3), .second, .val (.int i4), .val (.int i5), .val (.long (3155760000000 : Int64)), .second, .val (.long (100 : Int64)), .second, .val (.long ((((i1 &&& (2147483647 : Int32)) % (100 : Int32)) + (1 : Int32)).toInt64)), .second, .val (.long v26_2_l13), .second, .val (.long v26_2_l15), .second, .val (.int v92_5_l17), .val (.ref b6), .val (.long (Int64.ofInt (own_cap v26_2_l13.toInt v26_2_l15.toInt (v92_5_l17.toInt - 1).toNat))), .second, .val (.int (own_min (v92_5_l17 - (1 : Int32)) (62 : Int32))), .unset, .unset] [(.long (v26_2_l13 <<< ((own_min (v92_5_l17 - (1 : Int32)) (62 : Int32)) &&& 0x3f).toInt64))])) (fun _ k => XS.lshl X9.here hx rfl (hb hby at_172) rfl k) ?_
        refine own_step (f' := (mkF m 175 #[.val (.int i1), .val (.long q2), .second, .val (.long q3), .second, .val (.int i4), .val (.int i5), .val (.long (3155760000000 : Int64)), .second, .val (.long (100 : Int64)), .second, .val (.long ((((i1 &&& (2147483647 : Int32)) % (100 : Int32)) + (1 : Int32)).toInt64)), .second, .val (.long v26_2_l13), .second, .val (.long v26_2_l15), .second, .val (.int v92_5_l17), .val (.ref b6), .val (.long (Int64.ofInt (own_cap v26_2_l13.toInt v26_2_l15.toInt (v92_5_l17.toInt - 1).toNat))), .second, .val (.int (own_min (v92_5_l17 - (1 : Int32)) (62 : Int32))), .val (.long (v26_2_l13 <<< ((own_min (v92_5_l17 - (1 : Int32)) (62 : Int32)) &&& 0x3f).toInt64)), .second] [])) (fun _ k => XS.lstore X9.here hx rfl (hb hby at_173) rfl (l' := #[.val (.int i1), .val (.long q2), .second, .val (.long q3), .second, .val (.int i4), .val (.int i5), .val (.long (3155760000000 : Int64)), .second, .val (.long (100 : Int64)), .second, .val (.long ((((i1 &&& (2147483647 : Int32)) % (100 : Int32)) + (1 : Int32)).toInt64)), .second, .val (.long v26_2_l13), .second, .val (.long v26_2_l15), .second, .val (.int v92_5_l17), .val (.ref b6), .val (.long (Int64.ofInt (own_cap v26_2_l13.toInt v26_2_l15.toInt (v92_5_l17.toInt - 1).toNat))), .second, .val (.int (own_min (v92_5_l17 - (1 : Int32)) (62 : Int32))), .val (.long (v26_2_l13 <<< ((own_min (v92_5_l17 - (1 : Int32)) (62 : Int32)) &&& 0x3f).toInt64)), .second]) rfl k) ?_
        refine own_step (f' := (mkF m 182 #[.val (.int i1), .val (.long q2), .second, .val (.long q3), .second, .val (.int i4), .val (.int i5), .val (.long (3155760000000 : Int64)), .second, .val (.long (100 : Int64)), .second, .val (.long ((((i1 &&& (2147483647 : Int32)) % (100 : Int32)) + (1 : Int32)).toInt64)), .second, .val (.long v26_2_l13), .second, .val (.long v26_2_l15), .second, .val (.int v92_5_l17), .val (.ref b6), .val (.long (Int64.ofInt (own_cap v26_2_l13.toInt v26_2_l15.toInt (v92_5_l17.toInt - 1).toNat))), .second, .val (.int (own_min (v92_5_l17 - (1 : Int32)) (62 : Int32))), .val (.long (v26_2_l13 <<< ((own_min (v92_5_l17 - (1 : Int32)) (62 : Int32)) &&& 0x3f).toInt64)), .second] [])) (fun _ k => XS.goto X9.here hx rfl (pc0 := 175) (pc' := 182) rfl (hb hby at_175) (by decide) (by decide) k) ?_
        exact J165_11 _ (v26_2_l13 <<< ((own_min (v92_5_l17 - (1 : Int32)) (62 : Int32)) &&& 0x3f).toInt64) X9 e9 (by rw [if_neg hc165_10])
    by_cases hc92_3 : (i5 &&& (1 : Int32)) = (0 : Int32)
    · refine own_step (f' := (mkF m 107 #[.val (.int i1), .val (.long q2), .second, .val (.long q3), .second, .val (.int i4), .val (.int i5), .val (.long (3155760000000 : Int64)), .second, .val (.long (100 : Int64)), .second, .val (.long ((((i1 &&& (2147483647 : Int32)) % (100 : Int32)) + (1 : Int32)).toInt64)), .second, .val (.long v26_2_l13), .second, .val (.long v26_2_l15), .second, .unset, .unset, .unset, .unset, .unset, .unset, .unset] [])) (fun _ k => XS.ifYes X26_2.here hx rfl (pc0 := 92) (pc' := 107) rfl (hb hby at_92) rfl ((if0 _ _).trans (teq hc92_3).1) (by decide) (by decide) k) ?_
      refine own_step (f' := (mkF m 109 #[.val (.int i1), .val (.long q2), .second, .val (.long q3), .second, .val (.int i4), .val (.int i5), .val (.long (3155760000000 : Int64)), .second, .val (.long (100 : Int64)), .second, .val (.long ((((i1 &&& (2147483647 : Int32)) % (100 : Int32)) + (1 : Int32)).toInt64)), .second, .val (.long v26_2_l13), .second, .val (.long v26_2_l15), .second, .unset, .unset, .unset, .unset, .unset, .unset, .unset] [(.int i4)])) (fun _ k => XS.iload X26_2.here hx rfl (hb hby at_107) rfl k) ?_
      refine own_step (f' := (mkF m 111 #[.val (.int i1), .val (.long q2), .second, .val (.long q3), .second, .val (.int i4), .val (.int i5), .val (.long (3155760000000 : Int64)), .second, .val (.long (100 : Int64)), .second, .val (.long ((((i1 &&& (2147483647 : Int32)) % (100 : Int32)) + (1 : Int32)).toInt64)), .second, .val (.long v26_2_l13), .second, .val (.long v26_2_l15), .second, .unset, .unset, .unset, .unset, .unset, .unset, .unset] [(.int (2147483647 : Int32)), (.int i4)])) (fun _ k => X26_2.ldcInt hx hown (mvT hZ (hw _ (List.mem_of_getElem? (i := 2) rfl))) (g := (mkF m 109 #[.val (.int i1), .val (.long q2), .second, .val (.long q3), .second, .val (.int i4), .val (.int i5), .val (.long (3155760000000 : Int64)), .second, .val (.long (100 : Int64)), .second, .val (.long ((((i1 &&& (2147483647 : Int32)) % (100 : Int32)) + (1 : Int32)).toInt64)), .second, .val (.long v26_2_l13), .second, .val (.long v26_2_l15), .second, .unset, .unset, .unset, .unset, .unset, .unset, .unset] [(.int i4)])) rfl (hb hby at_109) _ k) ?_
      refine own_step (f' := (mkF m 112 #[.val (.int i1), .val (.long q2), .second, .val (.long q3), .second, .val (.int i4), .val (.int i5), .val (.long (3155760000000 : Int64)), .second, .val (.long (100 : Int64)), .second, .val (.long ((((i1 &&& (2147483647 : Int32)) % (100 : Int32)) + (1 : Int32)).toInt64)), .second, .val (.long v26_2_l13), .second, .val (.long v26_2_l15), .second, .unset, .unset, .unset, .unset, .unset, .unset, .unset] [(.int (i4 &&& (2147483647 : Int32)))])) (fun _ k => XS.iand X26_2.here hx rfl (hb hby at_111) rfl k) ?_
      refine own_step (f' := (mkF m 114 #[.val (.int i1), .val (.long q2), .second, .val (.long q3), .second, .val (.int i4), .val (.int i5), .val (.long (3155760000000 : Int64)), .second, .val (.long (100 : Int64)), .second, .val (.long ((((i1 &&& (2147483647 : Int32)) % (100 : Int32)) + (1 : Int32)).toInt64)), .second, .val (.long v26_2_l13), .second, .val (.long v26_2_l15), .second, .val (.int (i4 &&& (2147483647 : Int32))), .unset, .unset, .unset, .unset, .unset, .unset] [])) (fun _ k => XS.istore X26_2.here hx rfl (hb hby at_112) rfl (l' := #[.val (.int i1), .val (.long q2), .second, .val (.long q3), .second, .val (.int i4), .val (.int i5), .val (.long (3155760000000 : Int64)), .second, .val (.long (100 : Int64)), .second, .val (.long ((((i1 &&& (2147483647 : Int32)) % (100 : Int32)) + (1 : Int32)).toInt64)), .second, .val (.long v26_2_l13), .second, .val (.long v26_2_l15), .second, .val (.int (i4 &&& (2147483647 : Int32))), .unset, .unset, .unset, .unset, .unset, .unset]) rfl k) ?_
      refine own_step (f' := (mkF m 116 #[.val (.int i1), .val (.long q2), .second, .val (.long q3), .second, .val (.int i4), .val (.int i5), .val (.long (3155760000000 : Int64)), .second, .val (.long (100 : Int64)), .second, .val (.long ((((i1 &&& (2147483647 : Int32)) % (100 : Int32)) + (1 : Int32)).toInt64)), .second, .val (.long v26_2_l13), .second, .val (.long v26_2_l15), .second, .val (.int (i4 &&& (2147483647 : Int32))), .unset, .unset, .unset, .unset, .unset, .unset] [(.int (i4 &&& (2147483647 : Int32)))])) (fun _ k => XS.iload X26_2.here hx rfl (hb hby at_114) rfl k) ?_
      by_cases hc116_1004 : (i4 &&& (2147483647 : Int32)) = (0 : Int32)
      · refine own_step (f' := (mkF m 119 #[.val (.int i1), .val (.long q2), .second, .val (.long q3), .second, .val (.int i4), .val (.int i5), .val (.long (3155760000000 : Int64)), .second, .val (.long (100 : Int64)), .second, .val (.long ((((i1 &&& (2147483647 : Int32)) % (100 : Int32)) + (1 : Int32)).toInt64)), .second, .val (.long v26_2_l13), .second, .val (.long v26_2_l15), .second, .val (.int (i4 &&& (2147483647 : Int32))), .unset, .unset, .unset, .unset, .unset, .unset] [])) (fun _ k => XS.ifNo X26_2.here hx rfl (hb hby at_116) rfl ((if0 _ _).trans (teq hc116_1004).2) k) ?_
        refine own_step (f' := (mkF m 120 #[.val (.int i1), .val (.long q2), .second, .val (.long q3), .second, .val (.int i4), .val (.int i5), .val (.long (3155760000000 : Int64)), .second, .val (.long (100 : Int64)), .second, .val (.long ((((i1 &&& (2147483647 : Int32)) % (100 : Int32)) + (1 : Int32)).toInt64)), .second, .val (.long v26_2_l13), .second, .val (.long v26_2_l15), .second, .val (.int (i4 &&& (2147483647 : Int32))), .unset, .unset, .unset, .unset, .unset, .unset] [(.int (1 : Int32))])) (fun _ k => XS.iconst X26_2.here hx rfl (hb hby at_119) k) ?_
        refine own_step (f' := (mkF m 122 #[.val (.int i1), .val (.long q2), .second, .val (.long q3), .second, .val (.int i4), .val (.int i5), .val (.long (3155760000000 : Int64)), .second, .val (.long (100 : Int64)), .second, .val (.long ((((i1 &&& (2147483647 : Int32)) % (100 : Int32)) + (1 : Int32)).toInt64)), .second, .val (.long v26_2_l13), .second, .val (.long v26_2_l15), .second, .val (.int (1 : Int32)), .unset, .unset, .unset, .unset, .unset, .unset] [])) (fun _ k => XS.istore X26_2.here hx rfl (hb hby at_120) rfl (l' := #[.val (.int i1), .val (.long q2), .second, .val (.long q3), .second, .val (.int i4), .val (.int i5), .val (.long (3155760000000 : Int64)), .second, .val (.long (100 : Int64)), .second, .val (.long ((((i1 &&& (2147483647 : Int32)) % (100 : Int32)) + (1 : Int32)).toInt64)), .second, .val (.long v26_2_l13), .second, .val (.long v26_2_l15), .second, .val (.int (1 : Int32)), .unset, .unset, .unset, .unset, .unset, .unset]) rfl k) ?_
        exact J92_5 _ (1 : Int32) X26_2 e26_2 (by rw [if_pos hc92_3, if_pos hc116_1004])
      · refine own_step (f' := (mkF m 122 #[.val (.int i1), .val (.long q2), .second, .val (.long q3), .second, .val (.int i4), .val (.int i5), .val (.long (3155760000000 : Int64)), .second, .val (.long (100 : Int64)), .second, .val (.long ((((i1 &&& (2147483647 : Int32)) % (100 : Int32)) + (1 : Int32)).toInt64)), .second, .val (.long v26_2_l13), .second, .val (.long v26_2_l15), .second, .val (.int (i4 &&& (2147483647 : Int32))), .unset, .unset, .unset, .unset, .unset, .unset] [])) (fun _ k => XS.ifYes X26_2.here hx rfl (pc0 := 116) (pc' := 122) rfl (hb hby at_116) rfl ((if0 _ _).trans (feq hc116_1004).2) (by decide) (by decide) k) ?_
        exact J92_5 _ (i4 &&& (2147483647 : Int32)) X26_2 e26_2 (by rw [if_pos hc92_3, if_neg hc116_1004])
    · refine own_step (f' := (mkF m 95 #[.val (.int i1), .val (.long q2), .second, .val (.long q3), .second, .val (.int i4), .val (.int i5), .val (.long (3155760000000 : Int64)), .second, .val (.long (100 : Int64)), .second, .val (.long ((((i1 &&& (2147483647 : Int32)) % (100 : Int32)) + (1 : Int32)).toInt64)), .second, .val (.long v26_2_l13), .second, .val (.long v26_2_l15), .second, .unset, .unset, .unset, .unset, .unset, .unset, .unset] [])) (fun _ k => XS.ifNo X26_2.here hx rfl (hb hby at_92) rfl ((if0 _ _).trans (feq hc92_3).1) k) ?_
      refine own_step (f' := (mkF m 97 #[.val (.int i1), .val (.long q2), .second, .val (.long q3), .second, .val (.int i4), .val (.int i5), .val (.long (3155760000000 : Int64)), .second, .val (.long (100 : Int64)), .second, .val (.long ((((i1 &&& (2147483647 : Int32)) % (100 : Int32)) + (1 : Int32)).toInt64)), .second, .val (.long v26_2_l13), .second, .val (.long v26_2_l15), .second, .unset, .unset, .unset, .unset, .unset, .unset, .unset] [(.int i4)])) (fun _ k => XS.iload X26_2.here hx rfl (hb hby at_95) rfl k) ?_
      refine own_step (f' := (mkF m 99 #[.val (.int i1), .val (.long q2), .second, .val (.long q3), .second, .val (.int i4), .val (.int i5), .val (.long (3155760000000 : Int64)), .second, .val (.long (100 : Int64)), .second, .val (.long ((((i1 &&& (2147483647 : Int32)) % (100 : Int32)) + (1 : Int32)).toInt64)), .second, .val (.long v26_2_l13), .second, .val (.long v26_2_l15), .second, .unset, .unset, .unset, .unset, .unset, .unset, .unset] [(.int (63 : Int32)), (.int i4)])) (fun _ k => XS.bipush X26_2.here hx rfl (hb hby at_97) k) ?_
      refine own_step (f' := (mkF m 100 #[.val (.int i1), .val (.long q2), .second, .val (.long q3), .second, .val (.int i4), .val (.int i5), .val (.long (3155760000000 : Int64)), .second, .val (.long (100 : Int64)), .second, .val (.long ((((i1 &&& (2147483647 : Int32)) % (100 : Int32)) + (1 : Int32)).toInt64)), .second, .val (.long v26_2_l13), .second, .val (.long v26_2_l15), .second, .unset, .unset, .unset, .unset, .unset, .unset, .unset] [(.int (i4 &&& (63 : Int32)))])) (fun _ k => XS.iand X26_2.here hx rfl (hb hby at_99) rfl k) ?_
      refine own_step (f' := (mkF m 101 #[.val (.int i1), .val (.long q2), .second, .val (.long q3), .second, .val (.int i4), .val (.int i5), .val (.long (3155760000000 : Int64)), .second, .val (.long (100 : Int64)), .second, .val (.long ((((i1 &&& (2147483647 : Int32)) % (100 : Int32)) + (1 : Int32)).toInt64)), .second, .val (.long v26_2_l13), .second, .val (.long v26_2_l15), .second, .unset, .unset, .unset, .unset, .unset, .unset, .unset] [(.int (1 : Int32)), (.int (i4 &&& (63 : Int32)))])) (fun _ k => XS.iconst X26_2.here hx rfl (hb hby at_100) k) ?_
      refine own_step (f' := (mkF m 102 #[.val (.int i1), .val (.long q2), .second, .val (.long q3), .second, .val (.int i4), .val (.int i5), .val (.long (3155760000000 : Int64)), .second, .val (.long (100 : Int64)), .second, .val (.long ((((i1 &&& (2147483647 : Int32)) % (100 : Int32)) + (1 : Int32)).toInt64)), .second, .val (.long v26_2_l13), .second, .val (.long v26_2_l15), .second, .unset, .unset, .unset, .unset, .unset, .unset, .unset] [(.int ((i4 &&& (63 : Int32)) + (1 : Int32)))])) (fun _ k => XS.iadd X26_2.here hx rfl (hb hby at_101) rfl k) ?_
      refine own_step (f' := (mkF m 104 #[.val (.int i1), .val (.long q2), .second, .val (.long q3), .second, .val (.int i4), .val (.int i5), .val (.long (3155760000000 : Int64)), .second, .val (.long (100 : Int64)), .second, .val (.long ((((i1 &&& (2147483647 : Int32)) % (100 : Int32)) + (1 : Int32)).toInt64)), .second, .val (.long v26_2_l13), .second, .val (.long v26_2_l15), .second, .val (.int ((i4 &&& (63 : Int32)) + (1 : Int32))), .unset, .unset, .unset, .unset, .unset, .unset] [])) (fun _ k => XS.istore X26_2.here hx rfl (hb hby at_102) rfl (l' := #[.val (.int i1), .val (.long q2), .second, .val (.long q3), .second, .val (.int i4), .val (.int i5), .val (.long (3155760000000 : Int64)), .second, .val (.long (100 : Int64)), .second, .val (.long ((((i1 &&& (2147483647 : Int32)) % (100 : Int32)) + (1 : Int32)).toInt64)), .second, .val (.long v26_2_l13), .second, .val (.long v26_2_l15), .second, .val (.int ((i4 &&& (63 : Int32)) + (1 : Int32))), .unset, .unset, .unset, .unset, .unset, .unset]) rfl k) ?_
      refine own_step (f' := (mkF m 122 #[.val (.int i1), .val (.long q2), .second, .val (.long q3), .second, .val (.int i4), .val (.int i5), .val (.long (3155760000000 : Int64)), .second, .val (.long (100 : Int64)), .second, .val (.long ((((i1 &&& (2147483647 : Int32)) % (100 : Int32)) + (1 : Int32)).toInt64)), .second, .val (.long v26_2_l13), .second, .val (.long v26_2_l15), .second, .val (.int ((i4 &&& (63 : Int32)) + (1 : Int32))), .unset, .unset, .unset, .unset, .unset, .unset] [])) (fun _ k => XS.goto X26_2.here hx rfl (pc0 := 104) (pc' := 122) rfl (hb hby at_104) (by decide) (by decide) k) ?_
      exact J92_5 _ ((i4 &&& (63 : Int32)) + (1 : Int32)) X26_2 e26_2 (by rw [if_neg hc92_3])
  by_cases hc26_1 : (i5 &&& (2 : Int32)) = (0 : Int32)
  · refine own_step (f' := (mkF m 52 #[.val (.int i1), .val (.long q2), .second, .val (.long q3), .second, .val (.int i4), .val (.int i5), .val (.long (3155760000000 : Int64)), .second, .val (.long (100 : Int64)), .second, .val (.long ((((i1 &&& (2147483647 : Int32)) % (100 : Int32)) + (1 : Int32)).toInt64)), .second, .unset, .unset, .unset, .unset, .unset, .unset, .unset, .unset, .unset, .unset, .unset] [])) (fun _ k => XS.ifYes X0.here hx rfl (pc0 := 26) (pc' := 52) rfl (hb hby at_26) rfl ((if0 _ _).trans (teq hc26_1).1) (by decide) (by decide) k) ?_
    refine own_step (f' := (mkF m 54 #[.val (.int i1), .val (.long q2), .second, .val (.long q3), .second, .val (.int i4), .val (.int i5), .val (.long (3155760000000 : Int64)), .second, .val (.long (100 : Int64)), .second, .val (.long ((((i1 &&& (2147483647 : Int32)) % (100 : Int32)) + (1 : Int32)).toInt64)), .second, .unset, .unset, .unset, .unset, .unset, .unset, .unset, .unset, .unset, .unset, .unset] [(.long (100 : Int64))])) (fun _ k => XS.lload X0.here hx rfl (hb hby at_52) rfl k) ?_
    refine own_step (f' := (mkF m 55 #[.val (.int i1), .val (.long q2), .second, .val (.long q3), .second, .val (.int i4), .val (.int i5), .val (.long (3155760000000 : Int64)), .second, .val (.long (100 : Int64)), .second, .val (.long ((((i1 &&& (2147483647 : Int32)) % (100 : Int32)) + (1 : Int32)).toInt64)), .second, .unset, .unset, .unset, .unset, .unset, .unset, .unset, .unset, .unset, .unset, .unset] [(.long q2), (.long (100 : Int64))])) (fun _ k => XS.lloadN X0.here hx rfl (hb hby at_54) rfl k) ?_
    refine own_step (f' := (mkF m 58 #[.val (.int i1), .val (.long q2), .second, .val (.long q3), .second, .val (.int i4), .val (.int i5), .val (.long (3155760000000 : Int64)), .second, .val (.long (100 : Int64)), .second, .val (.long ((((i1 &&& (2147483647 : Int32)) % (100 : Int32)) + (1 : Int32)).toInt64)), .second, .unset, .unset, .unset, .unset, .unset, .unset, .unset, .unset, .unset, .unset, .unset] [(.long (9223372036854775807 : Int64)), (.long q2), (.long (100 : Int64))])) (fun _ k => X0.ldc2Long hx hown (mvT hZ (hw _ (List.mem_of_getElem? (i := 31) rfl))) (g := (mkF m 55 #[.val (.int i1), .val (.long q2), .second, .val (.long q3), .second, .val (.int i4), .val (.int i5), .val (.long (3155760000000 : Int64)), .second, .val (.long (100 : Int64)), .second, .val (.long ((((i1 &&& (2147483647 : Int32)) % (100 : Int32)) + (1 : Int32)).toInt64)), .second, .unset, .unset, .unset, .unset, .unset, .unset, .unset, .unset, .unset, .unset, .unset] [(.long q2), (.long (100 : Int64))])) rfl (hb hby at_55) _ k) ?_
    refine own_step (f' := (mkF m 59 #[.val (.int i1), .val (.long q2), .second, .val (.long q3), .second, .val (.int i4), .val (.int i5), .val (.long (3155760000000 : Int64)), .second, .val (.long (100 : Int64)), .second, .val (.long ((((i1 &&& (2147483647 : Int32)) % (100 : Int32)) + (1 : Int32)).toInt64)), .second, .unset, .unset, .unset, .unset, .unset, .unset, .unset, .unset, .unset, .unset, .unset] [(.long (q2 &&& (9223372036854775807 : Int64))), (.long (100 : Int64))])) (fun _ k => XS.land X0.here hx rfl (hb hby at_58) rfl k) ?_
    refine own_step (f' := (mkF m 61 #[.val (.int i1), .val (.long q2), .second, .val (.long q3), .second, .val (.int i4), .val (.int i5), .val (.long (3155760000000 : Int64)), .second, .val (.long (100 : Int64)), .second, .val (.long ((((i1 &&& (2147483647 : Int32)) % (100 : Int32)) + (1 : Int32)).toInt64)), .second, .unset, .unset, .unset, .unset, .unset, .unset, .unset, .unset, .unset, .unset, .unset] [(.long (3155760000000 : Int64)), (.long (q2 &&& (9223372036854775807 : Int64))), (.long (100 : Int64))])) (fun _ k => XS.lload X0.here hx rfl (hb hby at_59) rfl k) ?_
    refine own_step (f' := (mkF m 63 #[.val (.int i1), .val (.long q2), .second, .val (.long q3), .second, .val (.int i4), .val (.int i5), .val (.long (3155760000000 : Int64)), .second, .val (.long (100 : Int64)), .second, .val (.long ((((i1 &&& (2147483647 : Int32)) % (100 : Int32)) + (1 : Int32)).toInt64)), .second, .unset, .unset, .unset, .unset, .unset, .unset, .unset, .unset, .unset, .unset, .unset] [(.long (100 : Int64)), (.long (3155760000000 : Int64)), (.long (q2 &&& (9223372036854775807 : Int64))), (.long (100 : Int64))])) (fun _ k => XS.lload X0.here hx rfl (hb hby at_61) rfl k) ?_
    refine own_step (f' := (mkF m 64 #[.val (.int i1), .val (.long q2), .second, .val (.long q3), .second, .val (.int i4), .val (.int i5), .val (.long (3155760000000 : Int64)), .second, .val (.long (100 : Int64)), .second, .val (.long ((((i1 &&& (2147483647 : Int32)) % (100 : Int32)) + (1 : Int32)).toInt64)), .second, .unset, .unset, .unset, .unset, .unset, .unset, .unset, .unset, .unset, .unset, .unset] [(.long ((3155760000000 : Int64) - (100 : Int64))), (.long (q2 &&& (9223372036854775807 : Int64))), (.long (100 : Int64))])) (fun _ k => XS.lsub X0.here hx rfl (hb hby at_63) rfl k) ?_
    refine own_step (f' := (mkF m 65 #[.val (.int i1), .val (.long q2), .second, .val (.long q3), .second, .val (.int i4), .val (.int i5), .val (.long (3155760000000 : Int64)), .second, .val (.long (100 : Int64)), .second, .val (.long ((((i1 &&& (2147483647 : Int32)) % (100 : Int32)) + (1 : Int32)).toInt64)), .second, .unset, .unset, .unset, .unset, .unset, .unset, .unset, .unset, .unset, .unset, .unset] [(.long (1 : Int64)), (.long ((3155760000000 : Int64) - (100 : Int64))), (.long (q2 &&& (9223372036854775807 : Int64))), (.long (100 : Int64))])) (fun _ k => XS.lconst X0.here hx rfl (hb hby at_64) k) ?_
    refine own_step (f' := (mkF m 66 #[.val (.int i1), .val (.long q2), .second, .val (.long q3), .second, .val (.int i4), .val (.int i5), .val (.long (3155760000000 : Int64)), .second, .val (.long (100 : Int64)), .second, .val (.long ((((i1 &&& (2147483647 : Int32)) % (100 : Int32)) + (1 : Int32)).toInt64)), .second, .unset, .unset, .unset, .unset, .unset, .unset, .unset, .unset, .unset, .unset, .unset] [(.long (((3155760000000 : Int64) - (100 : Int64)) + (1 : Int64))), (.long (q2 &&& (9223372036854775807 : Int64))), (.long (100 : Int64))])) (fun _ k => XS.ladd X0.here hx rfl (hb hby at_65) rfl k) ?_
    refine own_step (f' := (mkF m 67 #[.val (.int i1), .val (.long q2), .second, .val (.long q3), .second, .val (.int i4), .val (.int i5), .val (.long (3155760000000 : Int64)), .second, .val (.long (100 : Int64)), .second, .val (.long ((((i1 &&& (2147483647 : Int32)) % (100 : Int32)) + (1 : Int32)).toInt64)), .second, .unset, .unset, .unset, .unset, .unset, .unset, .unset, .unset, .unset, .unset, .unset] [(.long ((q2 &&& (9223372036854775807 : Int64)) % (((3155760000000 : Int64) - (100 : Int64)) + (1 : Int64)))), (.long (100 : Int64))])) (fun _ k => XS.lrem X0.here hx rfl (hb hby at_66) rfl (by decide) (by rw [lrem_mod]; exact k)) ?_
    refine own_step (f' := (mkF m 68 #[.val (.int i1), .val (.long q2), .second, .val (.long q3), .second, .val (.int i4), .val (.int i5), .val (.long (3155760000000 : Int64)), .second, .val (.long (100 : Int64)), .second, .val (.long ((((i1 &&& (2147483647 : Int32)) % (100 : Int32)) + (1 : Int32)).toInt64)), .second, .unset, .unset, .unset, .unset, .unset, .unset, .unset, .unset, .unset, .unset, .unset] [(.long ((100 : Int64) + ((q2 &&& (9223372036854775807 : Int64)) % (((3155760000000 : Int64) - (100 : Int64)) + (1 : Int64)))))])) (fun _ k => XS.ladd X0.here hx rfl (hb hby at_67) rfl k) ?_
    refine own_step (f' := (mkF m 70 #[.val (.int i1), .val (.long q2), .second, .val (.long q3), .second, .val (.int i4), .val (.int i5), .val (.long (3155760000000 : Int64)), .second, .val (.long (100 : Int64)), .second, .val (.long ((((i1 &&& (2147483647 : Int32)) % (100 : Int32)) + (1 : Int32)).toInt64)), .second, .val (.long ((100 : Int64) + ((q2 &&& (9223372036854775807 : Int64)) % (((3155760000000 : Int64) - (100 : Int64)) + (1 : Int64))))), .second, .unset, .unset, .unset, .unset, .unset, .unset, .unset, .unset, .unset] [])) (fun _ k => XS.lstore X0.here hx rfl (hb hby at_68) rfl (l' := #[.val (.int i1), .val (.long q2), .second, .val (.long q3), .second, .val (.int i4), .val (.int i5), .val (.long (3155760000000 : Int64)), .second, .val (.long (100 : Int64)), .second, .val (.long ((((i1 &&& (2147483647 : Int32)) % (100 : Int32)) + (1 : Int32)).toInt64)), .second, .val (.long ((100 : Int64) + ((q2 &&& (9223372036854775807 : Int64)) % (((3155760000000 : Int64) - (100 : Int64)) + (1 : Int64))))), .second, .unset, .unset, .unset, .unset, .unset, .unset, .unset, .unset, .unset]) rfl k) ?_
    refine own_step (f' := (mkF m 72 #[.val (.int i1), .val (.long q2), .second, .val (.long q3), .second, .val (.int i4), .val (.int i5), .val (.long (3155760000000 : Int64)), .second, .val (.long (100 : Int64)), .second, .val (.long ((((i1 &&& (2147483647 : Int32)) % (100 : Int32)) + (1 : Int32)).toInt64)), .second, .val (.long ((100 : Int64) + ((q2 &&& (9223372036854775807 : Int64)) % (((3155760000000 : Int64) - (100 : Int64)) + (1 : Int64))))), .second, .unset, .unset, .unset, .unset, .unset, .unset, .unset, .unset, .unset] [(.long ((100 : Int64) + ((q2 &&& (9223372036854775807 : Int64)) % (((3155760000000 : Int64) - (100 : Int64)) + (1 : Int64)))))])) (fun _ k => XS.lload X0.here hx rfl (hb hby at_70) rfl k) ?_
    refine own_step (f' := (mkF m 73 #[.val (.int i1), .val (.long q2), .second, .val (.long q3), .second, .val (.int i4), .val (.int i5), .val (.long (3155760000000 : Int64)), .second, .val (.long (100 : Int64)), .second, .val (.long ((((i1 &&& (2147483647 : Int32)) % (100 : Int32)) + (1 : Int32)).toInt64)), .second, .val (.long ((100 : Int64) + ((q2 &&& (9223372036854775807 : Int64)) % (((3155760000000 : Int64) - (100 : Int64)) + (1 : Int64))))), .second, .unset, .unset, .unset, .unset, .unset, .unset, .unset, .unset, .unset] [(.long q3), (.long ((100 : Int64) + ((q2 &&& (9223372036854775807 : Int64)) % (((3155760000000 : Int64) - (100 : Int64)) + (1 : Int64)))))])) (fun _ k => XS.lloadN X0.here hx rfl (hb hby at_72) rfl k) ?_
    refine own_step (f' := (mkF m 76 #[.val (.int i1), .val (.long q2), .second, .val (.long q3), .second, .val (.int i4), .val (.int i5), .val (.long (3155760000000 : Int64)), .second, .val (.long (100 : Int64)), .second, .val (.long ((((i1 &&& (2147483647 : Int32)) % (100 : Int32)) + (1 : Int32)).toInt64)), .second, .val (.long ((100 : Int64) + ((q2 &&& (9223372036854775807 : Int64)) % (((3155760000000 : Int64) - (100 : Int64)) + (1 : Int64))))), .second, .unset, .unset, .unset, .unset, .unset, .unset, .unset, .unset, .unset] [(.long (9223372036854775807 : Int64)), (.long q3), (.long ((100 : Int64) + ((q2 &&& (9223372036854775807 : Int64)) % (((3155760000000 : Int64) - (100 : Int64)) + (1 : Int64)))))])) (fun _ k => X0.ldc2Long hx hown (mvT hZ (hw _ (List.mem_of_getElem? (i := 31) rfl))) (g := (mkF m 73 #[.val (.int i1), .val (.long q2), .second, .val (.long q3), .second, .val (.int i4), .val (.int i5), .val (.long (3155760000000 : Int64)), .second, .val (.long (100 : Int64)), .second, .val (.long ((((i1 &&& (2147483647 : Int32)) % (100 : Int32)) + (1 : Int32)).toInt64)), .second, .val (.long ((100 : Int64) + ((q2 &&& (9223372036854775807 : Int64)) % (((3155760000000 : Int64) - (100 : Int64)) + (1 : Int64))))), .second, .unset, .unset, .unset, .unset, .unset, .unset, .unset, .unset, .unset] [(.long q3), (.long ((100 : Int64) + ((q2 &&& (9223372036854775807 : Int64)) % (((3155760000000 : Int64) - (100 : Int64)) + (1 : Int64)))))])) rfl (hb hby at_73) _ k) ?_
    refine own_step (f' := (mkF m 77 #[.val (.int i1), .val (.long q2), .second, .val (.long q3), .second, .val (.int i4), .val (.int i5), .val (.long (3155760000000 : Int64)), .second, .val (.long (100 : Int64)), .second, .val (.long ((((i1 &&& (2147483647 : Int32)) % (100 : Int32)) + (1 : Int32)).toInt64)), .second, .val (.long ((100 : Int64) + ((q2 &&& (9223372036854775807 : Int64)) % (((3155760000000 : Int64) - (100 : Int64)) + (1 : Int64))))), .second, .unset, .unset, .unset, .unset, .unset, .unset, .unset, .unset, .unset] [(.long (q3 &&& (9223372036854775807 : Int64))), (.long ((100 : Int64) + ((q2 &&& (9223372036854775807 : Int64)) % (((3155760000000 : Int64) - (100 : Int64)) + (1 : Int64)))))])) (fun _ k => XS.land X0.here hx rfl (hb hby at_76) rfl k) ?_
    refine own_step (f' := (mkF m 79 #[.val (.int i1), .val (.long q2), .second, .val (.long q3), .second, .val (.int i4), .val (.int i5), .val (.long (3155760000000 : Int64)), .second, .val (.long (100 : Int64)), .second, .val (.long ((((i1 &&& (2147483647 : Int32)) % (100 : Int32)) + (1 : Int32)).toInt64)), .second, .val (.long ((100 : Int64) + ((q2 &&& (9223372036854775807 : Int64)) % (((3155760000000 : Int64) - (100 : Int64)) + (1 : Int64))))), .second, .unset, .unset, .unset, .unset, .unset, .unset, .unset, .unset, .unset] [(.long (3155760000000 : Int64)), (.long (q3 &&& (9223372036854775807 : Int64))), (.long ((100 : Int64) + ((q2 &&& (9223372036854775807 : Int64)) % (((3155760000000 : Int64) - (100 : Int64)) + (1 : Int64)))))])) (fun _ k => XS.lload X0.here hx rfl (hb hby at_77) rfl k) ?_
    refine own_step (f' := (mkF m 81 #[.val (.int i1), .val (.long q2), .second, .val (.long q3), .second, .val (.int i4), .val (.int i5), .val (.long (3155760000000 : Int64)), .second, .val (.long (100 : Int64)), .second, .val (.long ((((i1 &&& (2147483647 : Int32)) % (100 : Int32)) + (1 : Int32)).toInt64)), .second, .val (.long ((100 : Int64) + ((q2 &&& (9223372036854775807 : Int64)) % (((3155760000000 : Int64) - (100 : Int64)) + (1 : Int64))))), .second, .unset, .unset, .unset, .unset, .unset, .unset, .unset, .unset, .unset] [(.long ((100 : Int64) + ((q2 &&& (9223372036854775807 : Int64)) % (((3155760000000 : Int64) - (100 : Int64)) + (1 : Int64))))), (.long (3155760000000 : Int64)), (.long (q3 &&& (9223372036854775807 : Int64))), (.long ((100 : Int64) + ((q2 &&& (9223372036854775807 : Int64)) % (((3155760000000 : Int64) - (100 : Int64)) + (1 : Int64)))))])) (fun _ k => XS.lload X0.here hx rfl (hb hby at_79) rfl k) ?_
    refine own_step (f' := (mkF m 82 #[.val (.int i1), .val (.long q2), .second, .val (.long q3), .second, .val (.int i4), .val (.int i5), .val (.long (3155760000000 : Int64)), .second, .val (.long (100 : Int64)), .second, .val (.long ((((i1 &&& (2147483647 : Int32)) % (100 : Int32)) + (1 : Int32)).toInt64)), .second, .val (.long ((100 : Int64) + ((q2 &&& (9223372036854775807 : Int64)) % (((3155760000000 : Int64) - (100 : Int64)) + (1 : Int64))))), .second, .unset, .unset, .unset, .unset, .unset, .unset, .unset, .unset, .unset] [(.long ((3155760000000 : Int64) - ((100 : Int64) + ((q2 &&& (9223372036854775807 : Int64)) % (((3155760000000 : Int64) - (100 : Int64)) + (1 : Int64)))))), (.long (q3 &&& (9223372036854775807 : Int64))), (.long ((100 : Int64) + ((q2 &&& (9223372036854775807 : Int64)) % (((3155760000000 : Int64) - (100 : Int64)) + (1 : Int64)))))])) (fun _ k => XS.lsub X0.here hx rfl (hb hby at_81) rfl k) ?_
    refine own_step (f' := (mkF m 83 #[.val (.int i1), .val (.long q2), .second, .val (.long q3), .second, .val (.int i4), .val (.int i5), .val (.long (3155760000000 : Int64)), .second, .val (.long (100 : Int64)), .second, .val (.long ((((i1 &&& (2147483647 : Int32)) % (100 : Int32)) + (1 : Int32)).toInt64)), .second, .val (.long ((100 : Int64) + ((q2 &&& (9223372036854775807 : Int64)) % (((3155760000000 : Int64) - (100 : Int64)) + (1 : Int64))))), .second, .unset, .unset, .unset, .unset, .unset, .unset, .unset, .unset, .unset] [(.long (1 : Int64)), (.long ((3155760000000 : Int64) - ((100 : Int64) + ((q2 &&& (9223372036854775807 : Int64)) % (((3155760000000 : Int64) - (100 : Int64)) + (1 : Int64)))))), (.long (q3 &&& (9223372036854775807 : Int64))), (.long ((100 : Int64) + ((q2 &&& (9223372036854775807 : Int64)) % (((3155760000000 : Int64) - (100 : Int64)) + (1 : Int64)))))])) (fun _ k => XS.lconst X0.here hx rfl (hb hby at_82) k) ?_
    refine own_step (f' := (mkF m 84 #[.val (.int i1), .val (.long q2), .second, .val (.long q3), .second, .val (.int i4), .val (.int i5), .val (.long (3155760000000 : Int64)), .second, .val (.long (100 : Int64)), .second, .val (.long ((((i1 &&& (2147483647 : Int32)) % (100 : Int32)) + (1 : Int32)).toInt64)), .second, .val (.long ((100 : Int64) + ((q2 &&& (9223372036854775807 : Int64)) % (((3155760000000 : Int64) - (100 : Int64)) + (1 : Int64))))), .second, .unset, .unset, .unset, .unset, .unset, .unset, .unset, .unset, .unset] [(.long (((3155760000000 : Int64) - ((100 : Int64) + ((q2 &&& (9223372036854775807 : Int64)) % (((3155760000000 : Int64) - (100 : Int64)) + (1 : Int64))))) + (1 : Int64))), (.long (q3 &&& (9223372036854775807 : Int64))), (.long ((100 : Int64) + ((q2 &&& (9223372036854775807 : Int64)) % (((3155760000000 : Int64) - (100 : Int64)) + (1 : Int64)))))])) (fun _ k => XS.ladd X0.here hx rfl (hb hby at_83) rfl k) ?_
    refine own_step (f' := (mkF m 85 #[.val (.int i1), .val (.long q2), .second, .val (.long q3), .second, .val (.int i4), .val (.int i5), .val (.long (3155760000000 : Int64)), .second, .val (.long (100 : Int64)), .second, .val (.long ((((i1 &&& (2147483647 : Int32)) % (100 : Int32)) + (1 : Int32)).toInt64)), .second, .val (.long ((100 : Int64) + ((q2 &&& (9223372036854775807 : Int64)) % (((3155760000000 : Int64) - (100 : Int64)) + (1 : Int64))))), .second, .unset, .unset, .unset, .unset, .unset, .unset, .unset, .unset, .unset] [(.long ((q3 &&& (9223372036854775807 : Int64)) % (((3155760000000 : Int64) - ((100 : Int64) + ((q2 &&& (9223372036854775807 : Int64)) % (((3155760000000 : Int64) - (100 : Int64)) + (1 : Int64))))) + (1 : Int64)))), (.long ((100 : Int64) + ((q2 &&& (9223372036854775807 : Int64)) % (((3155760000000 : Int64) - (100 : Int64)) + (1 : Int64)))))])) (fun _ k => XS.lrem X0.here hx rfl (hb hby at_84) rfl (own_den0 _ (own_b2 _)) (by rw [lrem_mod]; exact k)) ?_
    refine own_step (f' := (mkF m 86 #[.val (.int i1), .val (.long q2), .second, .val (.long q3), .second, .val (.int i4), .val (.int i5), .val (.long (3155760000000 : Int64)), .second, .val (.long (100 : Int64)), .second, .val (.long ((((i1 &&& (2147483647 : Int32)) % (100 : Int32)) + (1 : Int32)).toInt64)), .second, .val (.long ((100 : Int64) + ((q2 &&& (9223372036854775807 : Int64)) % (((3155760000000 : Int64) - (100 : Int64)) + (1 : Int64))))), .second, .unset, .unset, .unset, .unset, .unset, .unset, .unset, .unset, .unset] [(.long (((100 : Int64) + ((q2 &&& (9223372036854775807 : Int64)) % (((3155760000000 : Int64) - (100 : Int64)) + (1 : Int64)))) + ((q3 &&& (9223372036854775807 : Int64)) % (((3155760000000 : Int64) - ((100 : Int64) + ((q2 &&& (9223372036854775807 : Int64)) % (((3155760000000 : Int64) - (100 : Int64)) + (1 : Int64))))) + (1 : Int64)))))])) (fun _ k => XS.ladd X0.here hx rfl (hb hby at_85) rfl k) ?_
    refine own_step (f' := (mkF m 88 #[.val (.int i1), .val (.long q2), .second, .val (.long q3), .second, .val (.int i4), .val (.int i5), .val (.long (3155760000000 : Int64)), .second, .val (.long (100 : Int64)), .second, .val (.long ((((i1 &&& (2147483647 : Int32)) % (100 : Int32)) + (1 : Int32)).toInt64)), .second, .val (.long ((100 : Int64) + ((q2 &&& (9223372036854775807 : Int64)) % (((3155760000000 : Int64) - (100 : Int64)) + (1 : Int64))))), .second, .val (.long (((100 : Int64) + ((q2 &&& (9223372036854775807 : Int64)) % (((3155760000000 : Int64) - (100 : Int64)) + (1 : Int64)))) + ((q3 &&& (9223372036854775807 : Int64)) % (((3155760000000 : Int64) - ((100 : Int64) + ((q2 &&& (9223372036854775807 : Int64)) % (((3155760000000 : Int64) - (100 : Int64)) + (1 : Int64))))) + (1 : Int64))))), .second, .unset, .unset, .unset, .unset, .unset, .unset, .unset] [])) (fun _ k => XS.lstore X0.here hx rfl (hb hby at_86) rfl (l' := #[.val (.int i1), .val (.long q2), .second, .val (.long q3), .second, .val (.int i4), .val (.int i5), .val (.long (3155760000000 : Int64)), .second, .val (.long (100 : Int64)), .second, .val (.long ((((i1 &&& (2147483647 : Int32)) % (100 : Int32)) + (1 : Int32)).toInt64)), .second, .val (.long ((100 : Int64) + ((q2 &&& (9223372036854775807 : Int64)) % (((3155760000000 : Int64) - (100 : Int64)) + (1 : Int64))))), .second, .val (.long (((100 : Int64) + ((q2 &&& (9223372036854775807 : Int64)) % (((3155760000000 : Int64) - (100 : Int64)) + (1 : Int64)))) + ((q3 &&& (9223372036854775807 : Int64)) % (((3155760000000 : Int64) - ((100 : Int64) + ((q2 &&& (9223372036854775807 : Int64)) % (((3155760000000 : Int64) - (100 : Int64)) + (1 : Int64))))) + (1 : Int64))))), .second, .unset, .unset, .unset, .unset, .unset, .unset, .unset]) rfl k) ?_
    exact J26_2 _ ((100 : Int64) + ((q2 &&& (9223372036854775807 : Int64)) % (((3155760000000 : Int64) - (100 : Int64)) + (1 : Int64)))) (((100 : Int64) + ((q2 &&& (9223372036854775807 : Int64)) % (((3155760000000 : Int64) - (100 : Int64)) + (1 : Int64)))) + ((q3 &&& (9223372036854775807 : Int64)) % (((3155760000000 : Int64) - ((100 : Int64) + ((q2 &&& (9223372036854775807 : Int64)) % (((3155760000000 : Int64) - (100 : Int64)) + (1 : Int64))))) + (1 : Int64)))) X0 e0 (by rw [if_pos hc26_1]) (by rw [if_pos hc26_1])
  · refine own_step (f' := (mkF m 29 #[.val (.int i1), .val (.long q2), .second, .val (.long q3), .second, .val (.int i4), .val (.int i5), .val (.long (3155760000000 : Int64)), .second, .val (.long (100 : Int64)), .second, .val (.long ((((i1 &&& (2147483647 : Int32)) % (100 : Int32)) + (1 : Int32)).toInt64)), .second, .unset, .unset, .unset, .unset, .unset, .unset, .unset, .unset, .unset, .unset, .unset] [])) (fun _ k => XS.ifNo X0.here hx rfl (hb hby at_26) rfl ((if0 _ _).trans (feq hc26_1).1) k) ?_
    refine own_step (f' := (mkF m 31 #[.val (.int i1), .val (.long q2), .second, .val (.long q3), .second, .val (.int i4), .val (.int i5), .val (.long (3155760000000 : Int64)), .second, .val (.long (100 : Int64)), .second, .val (.long ((((i1 &&& (2147483647 : Int32)) % (100 : Int32)) + (1 : Int32)).toInt64)), .second, .unset, .unset, .unset, .unset, .unset, .unset, .unset, .unset, .unset, .unset, .unset] [(.long (100 : Int64))])) (fun _ k => XS.lload X0.here hx rfl (hb hby at_29) rfl k) ?_
    refine own_step (f' := (mkF m 32 #[.val (.int i1), .val (.long q2), .second, .val (.long q3), .second, .val (.int i4), .val (.int i5), .val (.long (3155760000000 : Int64)), .second, .val (.long (100 : Int64)), .second, .val (.long ((((i1 &&& (2147483647 : Int32)) % (100 : Int32)) + (1 : Int32)).toInt64)), .second, .unset, .unset, .unset, .unset, .unset, .unset, .unset, .unset, .unset, .unset, .unset] [(.long q2), (.long (100 : Int64))])) (fun _ k => XS.lloadN X0.here hx rfl (hb hby at_31) rfl k) ?_
    refine own_step (f' := (mkF m 35 #[.val (.int i1), .val (.long q2), .second, .val (.long q3), .second, .val (.int i4), .val (.int i5), .val (.long (3155760000000 : Int64)), .second, .val (.long (100 : Int64)), .second, .val (.long ((((i1 &&& (2147483647 : Int32)) % (100 : Int32)) + (1 : Int32)).toInt64)), .second, .unset, .unset, .unset, .unset, .unset, .unset, .unset, .unset, .unset, .unset, .unset] [(.long (65535 : Int64)), (.long q2), (.long (100 : Int64))])) (fun _ k => X0.ldc2Long hx hown (mvT hZ (hw _ (List.mem_of_getElem? (i := 3) rfl))) (g := (mkF m 32 #[.val (.int i1), .val (.long q2), .second, .val (.long q3), .second, .val (.int i4), .val (.int i5), .val (.long (3155760000000 : Int64)), .second, .val (.long (100 : Int64)), .second, .val (.long ((((i1 &&& (2147483647 : Int32)) % (100 : Int32)) + (1 : Int32)).toInt64)), .second, .unset, .unset, .unset, .unset, .unset, .unset, .unset, .unset, .unset, .unset, .unset] [(.long q2), (.long (100 : Int64))])) rfl (hb hby at_32) _ k) ?_
    refine own_step (f' := (mkF m 36 #[.val (.int i1), .val (.long q2), .second, .val (.long q3), .second, .val (.int i4), .val (.int i5), .val (.long (3155760000000 : Int64)), .second, .val (.long (100 : Int64)), .second, .val (.long ((((i1 &&& (2147483647 : Int32)) % (100 : Int32)) + (1 : Int32)).toInt64)), .second, .unset, .unset, .unset, .unset, .unset, .unset, .unset, .unset, .unset, .unset, .unset] [(.long (q2 &&& (65535 : Int64))), (.long (100 : Int64))])) (fun _ k => XS.land X0.here hx rfl (hb hby at_35) rfl k) ?_
    refine own_step (f' := (mkF m 37 #[.val (.int i1), .val (.long q2), .second, .val (.long q3), .second, .val (.int i4), .val (.int i5), .val (.long (3155760000000 : Int64)), .second, .val (.long (100 : Int64)), .second, .val (.long ((((i1 &&& (2147483647 : Int32)) % (100 : Int32)) + (1 : Int32)).toInt64)), .second, .unset, .unset, .unset, .unset, .unset, .unset, .unset, .unset, .unset, .unset, .unset] [(.long ((100 : Int64) + (q2 &&& (65535 : Int64))))])) (fun _ k => XS.ladd X0.here hx rfl (hb hby at_36) rfl k) ?_
    refine own_step (f' := (mkF m 39 #[.val (.int i1), .val (.long q2), .second, .val (.long q3), .second, .val (.int i4), .val (.int i5), .val (.long (3155760000000 : Int64)), .second, .val (.long (100 : Int64)), .second, .val (.long ((((i1 &&& (2147483647 : Int32)) % (100 : Int32)) + (1 : Int32)).toInt64)), .second, .val (.long ((100 : Int64) + (q2 &&& (65535 : Int64)))), .second, .unset, .unset, .unset, .unset, .unset, .unset, .unset, .unset, .unset] [])) (fun _ k => XS.lstore X0.here hx rfl (hb hby at_37) rfl (l' := #[.val (.int i1), .val (.long q2), .second, .val (.long q3), .second, .val (.int i4), .val (.int i5), .val (.long (3155760000000 : Int64)), .second, .val (.long (100 : Int64)), .second, .val (.long ((((i1 &&& (2147483647 : Int32)) % (100 : Int32)) + (1 : Int32)).toInt64)), .second, .val (.long ((100 : Int64) + (q2 &&& (65535 : Int64)))), .second, .unset, .unset, .unset, .unset, .unset, .unset, .unset, .unset, .unset]) rfl k) ?_
    refine own_step (f' := (mkF m 41 #[.val (.int i1), .val (.long q2), .second, .val (.long q3), .second, .val (.int i4), .val (.int i5), .val (.long (3155760000000 : Int64)), .second, .val (.long (100 : Int64)), .second, .val (.long ((((i1 &&& (2147483647 : Int32)) % (100 : Int32)) + (1 : Int32)).toInt64)), .second, .val (.long ((100 : Int64) + (q2 &&& (65535 : Int64)))), .second, .unset, .unset, .unset, .unset, .unset, .unset, .unset, .unset, .unset] [(.long ((100 : Int64) + (q2 &&& (65535 : Int64))))])) (fun _ k => XS.lload X0.here hx rfl (hb hby at_39) rfl k) ?_
    refine own_step (f' := (mkF m 42 #[.val (.int i1), .val (.long q2), .second, .val (.long q3), .second, .val (.int i4), .val (.int i5), .val (.long (3155760000000 : Int64)), .second, .val (.long (100 : Int64)), .second, .val (.long ((((i1 &&& (2147483647 : Int32)) % (100 : Int32)) + (1 : Int32)).toInt64)), .second, .val (.long ((100 : Int64) + (q2 &&& (65535 : Int64)))), .second, .unset, .unset, .unset, .unset, .unset, .unset, .unset, .unset, .unset] [(.long q3), (.long ((100 : Int64) + (q2 &&& (65535 : Int64))))])) (fun _ k => XS.lloadN X0.here hx rfl (hb hby at_41) rfl k) ?_
    refine own_step (f' := (mkF m 45 #[.val (.int i1), .val (.long q2), .second, .val (.long q3), .second, .val (.int i4), .val (.int i5), .val (.long (3155760000000 : Int64)), .second, .val (.long (100 : Int64)), .second, .val (.long ((((i1 &&& (2147483647 : Int32)) % (100 : Int32)) + (1 : Int32)).toInt64)), .second, .val (.long ((100 : Int64) + (q2 &&& (65535 : Int64)))), .second, .unset, .unset, .unset, .unset, .unset, .unset, .unset, .unset, .unset] [(.long (268435455 : Int64)), (.long q3), (.long ((100 : Int64) + (q2 &&& (65535 : Int64))))])) (fun _ k => X0.ldc2Long hx hown (mvT hZ (hw _ (List.mem_of_getElem? (i := 4) rfl))) (g := (mkF m 42 #[.val (.int i1), .val (.long q2), .second, .val (.long q3), .second, .val (.int i4), .val (.int i5), .val (.long (3155760000000 : Int64)), .second, .val (.long (100 : Int64)), .second, .val (.long ((((i1 &&& (2147483647 : Int32)) % (100 : Int32)) + (1 : Int32)).toInt64)), .second, .val (.long ((100 : Int64) + (q2 &&& (65535 : Int64)))), .second, .unset, .unset, .unset, .unset, .unset, .unset, .unset, .unset, .unset] [(.long q3), (.long ((100 : Int64) + (q2 &&& (65535 : Int64))))])) rfl (hb hby at_42) _ k) ?_
    refine own_step (f' := (mkF m 46 #[.val (.int i1), .val (.long q2), .second, .val (.long q3), .second, .val (.int i4), .val (.int i5), .val (.long (3155760000000 : Int64)), .second, .val (.long (100 : Int64)), .second, .val (.long ((((i1 &&& (2147483647 : Int32)) % (100 : Int32)) + (1 : Int32)).toInt64)), .second, .val (.long ((100 : Int64) + (q2 &&& (65535 : Int64)))), .second, .unset, .unset, .unset, .unset, .unset, .unset, .unset, .unset, .unset] [(.long (q3 &&& (268435455 : Int64))), (.long ((100 : Int64) + (q2 &&& (65535 : Int64))))])) (fun _ k => XS.land X0.here hx rfl (hb hby at_45) rfl k) ?_
    refine own_step (f' := (mkF m 47 #[.val (.int i1), .val (.long q2), .second, .val (.long q3), .second, .val (.int i4), .val (.int i5), .val (.long (3155760000000 : Int64)), .second, .val (.long (100 : Int64)), .second, .val (.long ((((i1 &&& (2147483647 : Int32)) % (100 : Int32)) + (1 : Int32)).toInt64)), .second, .val (.long ((100 : Int64) + (q2 &&& (65535 : Int64)))), .second, .unset, .unset, .unset, .unset, .unset, .unset, .unset, .unset, .unset] [(.long (((100 : Int64) + (q2 &&& (65535 : Int64))) + (q3 &&& (268435455 : Int64))))])) (fun _ k => XS.ladd X0.here hx rfl (hb hby at_46) rfl k) ?_
    refine own_step (f' := (mkF m 49 #[.val (.int i1), .val (.long q2), .second, .val (.long q3), .second, .val (.int i4), .val (.int i5), .val (.long (3155760000000 : Int64)), .second, .val (.long (100 : Int64)), .second, .val (.long ((((i1 &&& (2147483647 : Int32)) % (100 : Int32)) + (1 : Int32)).toInt64)), .second, .val (.long ((100 : Int64) + (q2 &&& (65535 : Int64)))), .second, .val (.long (((100 : Int64) + (q2 &&& (65535 : Int64))) + (q3 &&& (268435455 : Int64)))), .second, .unset, .unset, .unset, .unset, .unset, .unset, .unset] [])) (fun _ k => XS.lstore X0.here hx rfl (hb hby at_47) rfl (l' := #[.val (.int i1), .val (.long q2), .second, .val (.long q3), .second, .val (.int i4), .val (.int i5), .val (.long (3155760000000 : Int64)), .second, .val (.long (100 : Int64)), .second, .val (.long ((((i1 &&& (2147483647 : Int32)) % (100 : Int32)) + (1 : Int32)).toInt64)), .second, .val (.long ((100 : Int64) + (q2 &&& (65535 : Int64)))), .second, .val (.long (((100 : Int64) + (q2 &&& (65535 : Int64))) + (q3 &&& (268435455 : Int64)))), .second, .unset, .unset, .unset, .unset, .unset, .unset, .unset]) rfl k) ?_
    refine own_step (f' := (mkF m 88 #[.val (.int i1), .val (.long q2), .second, .val (.long q3), .second, .val (.int i4), .val (.int i5), .val (.long (3155760000000 : Int64)), .second, .val (.long (100 : Int64)), .second, .val (.long ((((i1 &&& (2147483647 : Int32)) % (100 : Int32)) + (1 : Int32)).toInt64)), .second, .val (.long ((100 : Int64) + (q2 &&& (65535 : Int64)))), .second, .val (.long (((100 : Int64) + (q2 &&& (65535 : Int64))) + (q3 &&& (268435455 : Int64)))), .second, .unset, .unset, .unset, .unset, .unset, .unset, .unset] [])) (fun _ k => XS.goto X0.here hx rfl (pc0 := 49) (pc' := 88) rfl (hb hby at_49) (by decide) (by decide) k) ?_
    exact J26_2 _ ((100 : Int64) + (q2 &&& (65535 : Int64))) (((100 : Int64) + (q2 &&& (65535 : Int64))) + (q3 &&& (268435455 : Int64))) X0 e0 (by rw [if_neg hc26_1]) (by rw [if_neg hc26_1])
set_option maxRecDepth 65536 in
set_option maxHeartbeats 40000000 in
theorem comes_1 {Post : Tables → Env → Array Value → State → Outcome → State → Prop} (hpost : ∀ tb e args s v u, (limb_1_1.after args s (.returned v) u = true ∧ limb_1_2.after args s (.returned v) u = true ∧ True) → FrameEnd s (.returned v) u (Jvm.fieldLocs frame_1_writes args s ++ Jvm.arrayLocs frame_1_arrays args s ++ Jvm.staticLocs frame_1_statics s) 16 128 → Post tb e args s (.returned v) u) :
    ArmFor flags0 classFile x code maxLocals ret World_1 tables_1 room_1 Calls_1 rest_1 Pre_1 Post := by
  intro l hfl _ _ p e ha hc hk s m args below hf hA hF happ hP
  obtain ⟨hcalls, hrest, hpre⟩ := hP
  obtain ⟨-, -, -, hnamed, -, -, -, hat⟩ := (Spec.applies_iff hf).mp happ
  obtain ⟨hg, hn⟩ := and_e (Cond.before_iff.mp (show (Jvm.Cond.and given_1 narrow_1).before args s = true from hpre))
  obtain ⟨gq1, gq2⟩ := and_e hg
  obtain ⟨gq3, gq4⟩ := and_e gq2
  obtain ⟨gq5, gq6⟩ := and_e gq4
  obtain ⟨gq7, gq8⟩ := and_e gq6
  obtain ⟨gq9, gq10⟩ := and_e gq8
  obtain ⟨w0, w1, w2, w3, w4, rfl⟩ : ∃ w0 w1 w2 w3 w4 : Value, args = #[w0, w1, w2, w3, w4] := by
    have hs : args.size = 5 := by simpa [Cond.value, given_1] using gq1
    obtain ⟨L⟩ := args
    match L, hs with
    | [w0, w1, w2, w3, w4], _ => exact ⟨w0, w1, w2, w3, w4, rfl⟩
  have hw := fun d (hd : d ∈ tables_1) => atoms_spec (ws := Jvm.Cond.code x code maxLocals ret :: tables_1) hat d (List.mem_cons_of_mem _ hd)
  have hfit : Fit s := fun {y c} hc i hi => by
    obtain ⟨ha, rfl⟩ := Array.getElem?_eq_some_iff.mp hc
    have q := List.all_eq_true.mp ((Array.all_eq_true_iff_forall_mem.mp hF) _ (Array.getElem_mem ha)) i (List.mem_range.mpr hi)
    simpa [Array.getElem?_eq_getElem hi] using q
  obtain ⟨i0, ei0⟩ := is_v gq3
  obtain rfl : w0 = (.int i0) := Option.some.inj ei0
  obtain ⟨i1, ei1⟩ := isL_v gq5
  obtain rfl : w1 = (.long i1) := Option.some.inj ei1
  obtain ⟨i2, ei2⟩ := isL_v gq7
  obtain rfl : w2 = (.long i2) := Option.some.inj ei2
  obtain ⟨i3, ei3⟩ := is_v gq9
  obtain rfl : w3 = (.int i3) := Option.some.inj ei3
  obtain ⟨i4, ei4⟩ := is_v gq10
  obtain rfl : w4 = (.int i4) := Option.some.inj ei4
  obtain ⟨n, o, h1, h2, h3, _, L, rfl, ⟨rfl, N⟩, hq⟩ := rm0 l s _ hw tables_1 i0 i1 i2 i3 i4  s.heap s.heap.size (Nat.le_refl _)  p e ha hc hk s m _ below hf ((Spec.applies_iff_loose hf).mp happ).1 ⟨rfl, State.Warmed39.refl s, rfl⟩ trivial
  refine ⟨n, _, h1, h2, h3, hpost _ _ _ _ _ _ ⟨Cond.after_iff.mpr rfl, Cond.after_iff.mpr (eq_i res_at (Term.int_eval (1)) rfl), trivial⟩ ⟨hq.1, hq.2.1, (hq.2.2.sift fun y hy => Or.inr (N y hy)).mono (by decide) (by decide)⟩⟩
theorem main_1_1 : Claimed_1_1 := comes_1 fun _ _ _ _ _ _ h hF => ⟨h.1, hF⟩
theorem main_1_2 : Claimed_1_2 := comes_1 fun _ _ _ _ _ _ h hF => ⟨h.2.1, hF⟩
end Jvm.Pilot.@@N@@
namespace Jvm.Pilot.@@N@@
open Jvm Jvm.ClassFile Sem Op Lib Jvm.Free Jvm.Stand Jvm.Pilot.@@N@@.Jvm.D
/-! MADE BY PROGRAM (witnessworld.py) out of the Statement's table words and the real class files: 10 classes; the members and pool entries that the words name. The judged class is class 1, her method 1. -/
namespace start1
open Jvm.ClassFile
def u (s : String) : CpInfo := .utf8 (stringToUtf16 s)
/-- a pool by its gaps: so many unusable entries, then the entry; so many at the end -/
def gap : Nat → List CpInfo → List CpInfo
  | 0, r => r
  | n + 1, r => .unusable :: gap n r
def poolList (es : List (Nat × CpInfo)) (last : Nat) : List CpInfo := es.foldr (fun e r => gap e.1 (e.2 :: r)) (gap last [])
def pool (es : List (Nat × CpInfo)) (last : Nat) : Array CpInfo := ⟨poolList es last⟩
def fileOf (pool : Array CpInfo) (this : Nat) (attrs : Array Attribute := #[]) (ms : Array MethodInfo := #[]) (fl : Nat := 33) (sup : Nat := 0) (ifs : Array Nat := #[]) (fds : Array FieldInfo := #[]) : ClassFile where
  minorVersion := 0
  majorVersion := 65
  constantPool := pool
  accessFlags := fl
  thisClass := this
  superClass := sup
  interfaces := ifs
  fields := fds
  methods := ms
  attributes := attrs
def plain (name : String) (sup : Option ClassId) : Class where
  name := name
  kind := .ordinary
  loader := none
  accessFlags := 33
  super := sup
  interfaces := #[]
  cf := none
  fields := #[]
  methods := #[]
  instanceTypes := #[]
  staticTypes := #[]
  resolved := #[]
  callSites := []
  init := .initialized
  statics := none
  mirror := none

def pool0 : Array CpInfo := pool [(5, u "<init>"), (0, u "()V"), (1, .class_ 10), (1, u "java/lang/Object")] 113

def k0c0 : Code := { maxStack := 0, maxLocals := 1, code := object_method_1_code, exceptionTable := #[], attributes := #[] }
def k0m0 : Method := { name := "<init>", desc := "()V", sig := { parameters := [], returnType := none }, accessFlags := 1, code := some k0c0 }
/-- java/lang/Object -/
def k0 : Class := { plain "java/lang/Object" none with
  accessFlags := 33
  interfaces := #[]
  cf := some (fileOf pool0 8 #[] #[{ accessFlags := 1, nameIndex := 5, descriptorIndex := 6, attributes := #[] }] 33 0 #[] #[])
  fields := #[]
  methods := #[k0m0]
  instanceTypes := #[]
  staticTypes := #[]
  resolved := Array.replicate 124 none
  statics := none }

def pool1 : Array CpInfo := pool [(2, .class_ 4), (1, u "java/lang/Object"), (0, u "<init>"), (0, u "()V"), (0, .long 3155760000000), (1, .long 100), (1, .integer 2147483647), (0, .long 65535), (1, .long 268435455), (1, .long 9223372036854775807), (1, .class_ 19), (0, u "com/example/kookaburra/kookaburra/core/RetryPolicy"), (0, .methodref 18 21), (0, .nameAndType 5 22), (0, u "(JJJ)V"), (0, .methodref 18 24), (0, .nameAndType 25 26), (0, u "backoffCapMillis"), (0, u "(I)J"), (0, .methodref 28 29), (0, .class_ 30), (0, .nameAndType 31 32), (0, u "java/lang/Math"), (0, u "min"), (0, u "(II)I"), (0, .class_ 34), (0, u "com/example/kookaburra/kookaburra/core/RetryPolicyBackoffCapMillisPinLaw"), (2, u "law"), (0, u "(IJJII)Z")] 3

def k1m0 : Method := { name := "<init>", desc := "()V", sig := { parameters := [], returnType := none }, accessFlags := 2, code := none }
def k1c1 : Code := { maxStack := 8, maxLocals := 24, code := code, exceptionTable := #[], attributes := #[] }
def k1m1 : Method := { name := "law", desc := "(IJJII)Z", sig := { parameters := [.int, .long, .long, .int, .int], returnType := some .boolean }, accessFlags := 9, code := some k1c1 }
/-- com/example/kookaburra/kookaburra/core/RetryPolicyBackoffCapMillisPinLaw -/
def k1 : Class := { plain "com/example/kookaburra/kookaburra/core/RetryPolicyBackoffCapMillisPinLaw" (some 0) with
  accessFlags := 49
  interfaces := #[]
  cf := some (fileOf pool1 33 #[] #[{ accessFlags := 2, nameIndex := 5, descriptorIndex := 6, attributes := #[] }, { accessFlags := 9, nameIndex := 37, descriptorIndex := 38, attributes := #[] }] 49 2 #[] #[])
  fields := #[]
  methods := #[k1m0, k1m1]
  instanceTypes := #[]
  staticTypes := #[]
  resolved := Array.replicate 42 none
  statics := none }

def pool2 : Array CpInfo := pool [(3, .methodref 4 5), (0, .class_ 6), (0, .nameAndType 7 8), (0, u "java/lang/Object"), (0, u "<init>"), (0, u "()V"), (0, .class_ 10), (0, u "com/example/kookaburra/kookaburra/core/RetryPolicy"), (0, .long 100), (10, .long 3155760000000), (5, .fieldref 9 29), (0, .nameAndType 30 31), (0, u "maxAttempts"), (0, u "I"), (0, .fieldref 9 33), (0, .nameAndType 34 35), (0, u "initialBackoffMillis"), (0, u "J"), (0, .fieldref 9 37), (0, .nameAndType 38 35), (0, u "maxBackoffMillis"), (8, u "(JJJ)V"), (6, .long 2), (1, .methodref 57 58), (0, .class_ 59), (0, .nameAndType 60 61), (0, u "java/lang/Math"), (0, u "min"), (0, u "(JJ)J"), (7, u "backoffCapMillis"), (0, u "(I)J"), (21, u "MAX_ATTEMPTS_LIMIT"), (2, u "MIN_INITIAL_BACKOFF_MILLIS"), (0, u "BACKOFF_LIMIT_MILLIS"), (0, u "DEFAULT_MAX_ATTEMPTS"), (1, u "DEFAULT_INITIAL_BACKOFF_MILLIS"), (0, u "DEFAULT_MAX_BACKOFF_MILLIS")] 42

def k2c0 : Code := { maxStack := 6, maxLocals := 7, code := prog_17_method_1_code, exceptionTable := #[], attributes := #[] }
def k2m0 : Method := { name := "<init>", desc := "(JJJ)V", sig := { parameters := [.long, .long, .long], returnType := none }, accessFlags := 1, code := some k2c0 }
def k2c1 : Code := { maxStack := 4, maxLocals := 5, code := prog_17_method_7_code, exceptionTable := #[], attributes := #[] }
def k2m1 : Method := { name := "backoffCapMillis", desc := "(I)J", sig := { parameters := [.int], returnType := some .long }, accessFlags := 1, code := some k2c1 }
/-- com/example/kookaburra/kookaburra/core/RetryPolicy -/
def k2 : Class := { plain "com/example/kookaburra/kookaburra/core/RetryPolicy" (some 0) with
  accessFlags := 49
  interfaces := #[]
  cf := some (fileOf pool2 9 #[] #[{ accessFlags := 1, nameIndex := 7, descriptorIndex := 47, attributes := #[] }, { accessFlags := 1, nameIndex := 69, descriptorIndex := 70, attributes := #[] }] 49 4 #[] #[{ accessFlags := 25, nameIndex := 92, descriptorIndex := 31, attributes := #[] }, { accessFlags := 25, nameIndex := 95, descriptorIndex := 35, attributes := #[] }, { accessFlags := 25, nameIndex := 96, descriptorIndex := 35, attributes := #[] }, { accessFlags := 25, nameIndex := 97, descriptorIndex := 31, attributes := #[] }, { accessFlags := 25, nameIndex := 99, descriptorIndex := 35, attributes := #[] }, { accessFlags := 25, nameIndex := 100, descriptorIndex := 35, attributes := #[] }, { accessFlags := 18, nameIndex := 30, descriptorIndex := 31, attributes := #[] }, { accessFlags := 18, nameIndex := 34, descriptorIndex := 35, attributes := #[] }, { accessFlags := 18, nameIndex := 38, descriptorIndex := 35, attributes := #[] }])
  fields := #[{ name := "MAX_ATTEMPTS_LIMIT", type := .int, accessFlags := 25, slot := 0, constantValue := 0 }, { name := "MIN_INITIAL_BACKOFF_MILLIS", type := .long, accessFlags := 25, slot := 1, constantValue := 0 }, { name := "BACKOFF_LIMIT_MILLIS", type := .long, accessFlags := 25, slot := 2, constantValue := 0 }, { name := "DEFAULT_MAX_ATTEMPTS", type := .int, accessFlags := 25, slot := 3, constantValue := 0 }, { name := "DEFAULT_INITIAL_BACKOFF_MILLIS", type := .long, accessFlags := 25, slot := 4, constantValue := 0 }, { name := "DEFAULT_MAX_BACKOFF_MILLIS", type := .long, accessFlags := 25, slot := 5, constantValue := 0 }, { name := "maxAttempts", type := .int, accessFlags := 18, slot := 0, constantValue := 0 }, { name := "initialBackoffMillis", type := .long, accessFlags := 18, slot := 1, constantValue := 0 }, { name := "maxBackoffMillis", type := .long, accessFlags := 18, slot := 2, constantValue := 0 }]
  methods := #[k2m0, k2m1]
  instanceTypes := #[.int, .long, .long]
  staticTypes := #[.int, .long, .long, .int, .long, .long]
  resolved := Array.replicate 143 none
  statics := none }

def pool3 : Array CpInfo := pool [(1, .class_ 2), (0, u "java/lang/Math"), (1, .class_ 6), (1, u "java/lang/Object"), (0, u "<init>"), (0, u "()V"), (89, .class_ 100), (1, u "java/lang/Math$RandomNumberGeneratorHolder"), (20, u "(JJ)J"), (50, u "negativeZeroFloatBits"), (0, u "J"), (2, u "negativeZeroDoubleBits"), (24, u "min"), (43, u "$assertionsDisabled"), (0, u "Z"), (88, u "(II)I"), (2, u "twoToTheDoubleScaleDown"), (0, u "D"), (4, u "twoToTheDoubleScaleUp"), (9, u "E"), (3, u "PI"), (2, u "TAU"), (2, u "DEGREES_TO_RADIANS"), (0, u "RADIANS_TO_DEGREES")] 94

def k3m0 : Method := { name := "<init>", desc := "()V", sig := { parameters := [], returnType := none }, accessFlags := 2, code := none }
def k3c1 : Code := { maxStack := 2, maxLocals := 2, code := jdk_29_method_69_code, exceptionTable := #[], attributes := #[] }
def k3m1 : Method := { name := "min", desc := "(II)I", sig := { parameters := [.int, .int], returnType := some .int }, accessFlags := 9, code := some k3c1 }
def k3c2 : Code := { maxStack := 4, maxLocals := 4, code := jdk_29_method_70_code, exceptionTable := #[], attributes := #[] }
def k3m2 : Method := { name := "min", desc := "(JJ)J", sig := { parameters := [.long, .long], returnType := some .long }, accessFlags := 9, code := some k3c2 }
/-- java/lang/Math -/
def k3 : Class := { plain "java/lang/Math" (some 0) with
  accessFlags := 49
  interfaces := #[]
  cf := some (fileOf pool3 1 #[.nestMembers #[98]] #[{ accessFlags := 2, nameIndex := 7, descriptorIndex := 8, attributes := #[] }, { accessFlags := 9, nameIndex := 201, descriptorIndex := 335, attributes := #[] }, { accessFlags := 9, nameIndex := 201, descriptorIndex := 121, attributes := #[] }] 49 4 #[] #[{ accessFlags := 25, nameIndex := 354, descriptorIndex := 339, attributes := #[] }, { accessFlags := 25, nameIndex := 358, descriptorIndex := 339, attributes := #[] }, { accessFlags := 25, nameIndex := 361, descriptorIndex := 339, attributes := #[] }, { accessFlags := 26, nameIndex := 364, descriptorIndex := 339, attributes := #[] }, { accessFlags := 26, nameIndex := 365, descriptorIndex := 339, attributes := #[] }, { accessFlags := 26, nameIndex := 172, descriptorIndex := 173, attributes := #[] }, { accessFlags := 26, nameIndex := 176, descriptorIndex := 173, attributes := #[] }, { accessFlags := 8, nameIndex := 344, descriptorIndex := 339, attributes := #[] }, { accessFlags := 8, nameIndex := 338, descriptorIndex := 339, attributes := #[] }, { accessFlags := 4120, nameIndex := 245, descriptorIndex := 246, attributes := #[] }])
  fields := #[{ name := "E", type := .double, accessFlags := 25, slot := 0, constantValue := 0 }, { name := "PI", type := .double, accessFlags := 25, slot := 1, constantValue := 0 }, { name := "TAU", type := .double, accessFlags := 25, slot := 2, constantValue := 0 }, { name := "DEGREES_TO_RADIANS", type := .double, accessFlags := 26, slot := 3, constantValue := 0 }, { name := "RADIANS_TO_DEGREES", type := .double, accessFlags := 26, slot := 4, constantValue := 0 }, { name := "negativeZeroFloatBits", type := .long, accessFlags := 26, slot := 5, constantValue := 0 }, { name := "negativeZeroDoubleBits", type := .long, accessFlags := 26, slot := 6, constantValue := 0 }, { name := "twoToTheDoubleScaleUp", type := .double, accessFlags := 8, slot := 7, constantValue := 0 }, { name := "twoToTheDoubleScaleDown", type := .double, accessFlags := 8, slot := 8, constantValue := 0 }, { name := "$assertionsDisabled", type := .boolean, accessFlags := 4120, slot := 9, constantValue := 0 }]
  methods := #[k3m0, k3m1, k3m2]
  instanceTypes := #[]
  staticTypes := #[.double, .double, .double, .double, .double, .long, .long, .double, .double, .boolean]
  resolved := Array.replicate 460 none
  statics := none }

def pool4 : Array CpInfo := pool [(1, u "java/lang/Cloneable"), (0, .class_ 1), (0, u "java/lang/Object"), (0, .class_ 3)] 3

/-- java/lang/Cloneable -/
def k4 : Class := { plain "java/lang/Cloneable" (some 0) with
  accessFlags := 1537
  interfaces := #[]
  cf := some (fileOf pool4 2 #[] #[] 1537 4 #[] #[])
  fields := #[]
  methods := #[]
  instanceTypes := #[]
  staticTypes := #[]
  resolved := Array.replicate 8 none
  statics := none }

def pool5 : Array CpInfo := pool [(1, u "java/io/Serializable"), (0, .class_ 1), (0, u "java/lang/Object"), (0, .class_ 3)] 3

/-- java/io/Serializable -/
def k5 : Class := { plain "java/io/Serializable" (some 0) with
  accessFlags := 1537
  interfaces := #[]
  cf := some (fileOf pool5 2 #[] #[] 1537 4 #[] #[])
  fields := #[]
  methods := #[]
  instanceTypes := #[]
  staticTypes := #[]
  resolved := Array.replicate 8 none
  statics := none }

/-- the primitive byte -/
def k6 : Class := { plain "byte" none with kind := .primitive 'B', accessFlags := 0x411 }
/-- [B -/
def k7 : Class := { plain "[B" (some 0) with kind := .array 6 .byte, interfaces := #[4, 5], accessFlags := 1041 }

/-- the primitive int -/
def k8 : Class := { plain "int" none with kind := .primitive 'I', accessFlags := 0x411 }
/-- [I -/
def k9 : Class := { plain "[I" (some 0) with kind := .array 8 .int, interfaces := #[4, 5], accessFlags := 1041 }

def heap : Heap := #[]
def classes : Array Class := #[k0, k1, k2, k3, k4, k5, k6, k7, k8, k9]
def interned : List (Array UInt16 × Addr) := []
def slotsUsed : Nat := 0
def theMethod : MethodId := ⟨1, 1⟩
def args0 : Array Value := #[.int 5, .long 5, .long 5, .int 5, .int 5]
def aboutOver (below : List Frame) : State where
  vm := { classes := classes, interned := interned.toArray }
  heap := heap
  slotsUsed := slotsUsed
  threads := #[{ frames := .invoking theMethod args0 :: below }]
def below0 : List Frame := [.native { method := ⟨0, 0⟩, args := #[] }]
def about1 : State := aboutOver below0
def p0 : Program := .bare "" "" ""
def e0 : Env := launch0.env 0 0 0
theorem w_frames : about1.frames = Frame.invoking theMethod args0 :: below0 := rfl
set_option maxRecDepth 65536 in
theorem w_args : argsFit about1.vm theMethod args0 = true := by decide +kernel
set_option maxRecDepth 65536 in
theorem w_heap : heapFits about1 = true := by decide +kernel
set_option maxRecDepth 65536 in
theorem w_runnable : about1.curStatus? = some .runnable := by decide +kernel
set_option maxRecDepth 65536 in
theorem w_alone : about1.alone = true := by decide +kernel
set_option maxRecDepth 65536 in
theorem w_named : about1.methodNamed? x = some theMethod := by decide +kernel
set_option maxRecDepth 65536 in
theorem w_hears : about1.hears theMethod below0 = true := by decide +kernel
set_option maxRecDepth 65536 in
theorem w_ripe : about1.ripe theMethod args0 below0 = true := by decide +kernel
theorem w_running : about1.status = .running := rfl
set_option maxRecDepth 65536 in
theorem w_room : about1.hasRoom e0.platform room_1 = true :=
  launch0.hasRoom_least _ room_1 (by decide +kernel) (by decide +kernel) (by decide +kernel) (by decide +kernel) (by decide +kernel) (by decide +kernel)
theorem allAtoms_all (ts : List Jvm.Cond) (a : Array Jvm.Value) (st : Jvm.State) : (allAtoms ts).before a st = ts.all (fun c => c.before a st) := by
  induction ts with
  | nil => rfl
  | cons c t ih =>
    show (Jvm.Cond.and c (allAtoms t)).before a st = _
    rw [Jvm.Cond.before_and, ih, List.all_cons]
def words1 : List Jvm.Cond := Jvm.Cond.code x code maxLocals ret :: tables_1
/-- a 'code' word, met by the world's own term for the bytes: nothing is compared byte by byte -/
theorem code_word {y : MethodName} {bytes : ByteArray} {mx : Nat} {rt : Option FieldType} {a : Array Value} {s : State} {m : MethodId} {meth : Method} {c : Code} (h1 : s.methodNamed? y = some m) (h2 : s.vm.method? m = some meth) (h3 : meth.code = some c) (h4 : c.code = bytes)
    (h5 : (c.maxLocals == mx && c.exceptionTable.isEmpty && decide (c.maxStack ≤ mostOperands) && decide (meth.sig.returnType = rt) && !meth.locks && decide (parseMethodDescriptor y.desc = some meth.sig)) = true) : (Jvm.Cond.code y bytes mx rt).before a s = true := by
  simp only [Bool.and_eq_true, beq_iff_eq, Bool.not_eq_true', decide_eq_true_eq] at h5
  obtain ⟨⟨⟨⟨⟨g1, g2⟩, g3⟩, g4⟩, g5⟩, g6⟩ := h5
  simp [Cond.before, Cond.holds, Cond.value, h1, h2, h3, h4, g1, g2, g3, g4, g5, g6]
def isCode : Jvm.Cond → Bool
  | .code _ _ _ _ => true
  | _ => false
theorem all_split {L : List Jvm.Cond} {P : Jvm.Cond → Bool} (h1 : L.all (fun c => isCode c || P c) = true) (h2 : ∀ c ∈ L.filter isCode, P c = true) : L.all P = true := by
  refine List.all_eq_true.mpr fun c hc => ?_
  have h := List.all_eq_true.mp h1 c hc
  rcases Bool.eq_false_or_eq_true (isCode c) with hi | hi
  · exact h2 c (List.mem_filter.mpr ⟨hc, hi⟩)
  · simpa [hi] using h
set_option maxRecDepth 65536 in
theorem w_c0 : (Jvm.Cond.code x code maxLocals ret).before args0 about1 = true := code_word (m := ⟨1, 1⟩) (meth := k1m1) (c := k1c1) (by decide +kernel) rfl rfl rfl (by decide +kernel)
set_option maxRecDepth 65536 in
theorem w_c1 : (Jvm.Cond.code ({ cls := "com/example/kookaburra/kookaburra/core/RetryPolicy", name := "<init>", desc := "(JJJ)V" } : Jvm.MethodName) prog_17_method_1_code (7 : Nat) (Option.none : Option Jvm.ClassFile.FieldType)).before args0 about1 = true := code_word (m := ⟨2, 0⟩) (meth := k2m0) (c := k2c0) (by decide +kernel) rfl rfl rfl (by decide +kernel)
set_option maxRecDepth 65536 in
theorem w_c2 : (Jvm.Cond.code ({ cls := "java/lang/Object", name := "<init>", desc := "()V" } : Jvm.MethodName) object_method_1_code (1 : Nat) (Option.none : Option Jvm.ClassFile.FieldType)).before args0 about1 = true := code_word (m := ⟨0, 0⟩) (meth := k0m0) (c := k0c0) (by decide +kernel) rfl rfl rfl (by decide +kernel)
set_option maxRecDepth 65536 in
theorem w_c3 : (Jvm.Cond.code ({ cls := "com/example/kookaburra/kookaburra/core/RetryPolicy", name := "backoffCapMillis", desc := "(I)J" } : Jvm.MethodName) prog_17_method_7_code (5 : Nat) (Option.some Jvm.ClassFile.FieldType.long)).before args0 about1 = true := code_word (m := ⟨2, 1⟩) (meth := k2m1) (c := k2c1) (by decide +kernel) rfl rfl rfl (by decide +kernel)
set_option maxRecDepth 65536 in
theorem w_c4 : (Jvm.Cond.code ({ cls := "java/lang/Math", name := "min", desc := "(II)I" } : Jvm.MethodName) jdk_29_method_69_code (2 : Nat) (Option.some Jvm.ClassFile.FieldType.int)).before args0 about1 = true := code_word (m := ⟨3, 1⟩) (meth := k3m1) (c := k3c1) (by decide +kernel) rfl rfl rfl (by decide +kernel)
set_option maxRecDepth 65536 in
theorem w_c5 : (Jvm.Cond.code ({ cls := "java/lang/Math", name := "min", desc := "(JJ)J" } : Jvm.MethodName) jdk_29_method_70_code (4 : Nat) (Option.some Jvm.ClassFile.FieldType.long)).before args0 about1 = true := code_word (m := ⟨3, 2⟩) (meth := k3m2) (c := k3c2) (by decide +kernel) rfl rfl rfl (by decide +kernel)
def codes1 : List Jvm.Cond := [Jvm.Cond.code x code maxLocals ret, Jvm.Cond.code ({ cls := "com/example/kookaburra/kookaburra/core/RetryPolicy", name := "<init>", desc := "(JJJ)V" } : Jvm.MethodName) prog_17_method_1_code (7 : Nat) (Option.none : Option Jvm.ClassFile.FieldType), Jvm.Cond.code ({ cls := "java/lang/Object", name := "<init>", desc := "()V" } : Jvm.MethodName) object_method_1_code (1 : Nat) (Option.none : Option Jvm.ClassFile.FieldType), Jvm.Cond.code ({ cls := "com/example/kookaburra/kookaburra/core/RetryPolicy", name := "backoffCapMillis", desc := "(I)J" } : Jvm.MethodName) prog_17_method_7_code (5 : Nat) (Option.some Jvm.ClassFile.FieldType.long), Jvm.Cond.code ({ cls := "java/lang/Math", name := "min", desc := "(II)I" } : Jvm.MethodName) jdk_29_method_69_code (2 : Nat) (Option.some Jvm.ClassFile.FieldType.int), Jvm.Cond.code ({ cls := "java/lang/Math", name := "min", desc := "(JJ)J" } : Jvm.MethodName) jdk_29_method_70_code (4 : Nat) (Option.some Jvm.ClassFile.FieldType.long)]
set_option maxRecDepth 65536 in
theorem codes_eq : words1.filter isCode = codes1 := rfl
theorem w_codes : ∀ c ∈ words1.filter isCode, c.before args0 about1 = true := by
  rw [codes_eq]
  intro c hc
  simp only [codes1, List.mem_cons, List.not_mem_nil, or_false] at hc
  rcases hc with rfl | rfl | rfl | rfl | rfl | rfl
  · exact w_c0
  · exact w_c1
  · exact w_c2
  · exact w_c3
  · exact w_c4
  · exact w_c5
set_option maxRecDepth 65536 in
theorem w_t1 : (words1.take 24).all (fun c => isCode c || c.before args0 about1) = true := by decide +kernel
set_option maxRecDepth 65536 in
theorem w_t2 : (words1.drop 24).all (fun c => isCode c || c.before args0 about1) = true := by decide +kernel
theorem w_tables : (allAtoms (Jvm.Cond.code x code maxLocals ret :: tables_1)).before args0 about1 = true := by
  rw [allAtoms_all]
  show words1.all (fun c => c.before args0 about1) = true
  refine all_split ?_ w_codes
  rw [← List.take_append_drop 24 words1, List.all_append, w_t1, w_t2]
  rfl
set_option maxRecDepth 65536 in
theorem w_case : (Jvm.Cond.and given_1 narrow_1).before args0 about1 = true := by decide +kernel
theorem w_applies : (headSpec (Jvm.Cond.code x code maxLocals ret :: tables_1) room_1).applies x e0.platform about1 = true :=
  (Spec.applies_iff w_frames).mpr ⟨w_running, w_runnable, w_alone, w_named, w_hears, w_ripe, w_room, w_tables⟩
theorem atStart : AtStart classFile x code maxLocals ret World_1 tables_1 room_1 Calls_1 rest_1 Pre_1 launch0 p0 e0 about1 theMethod args0 below0 :=
  ⟨lists_1, trivial, launch0.admits_env _ _ _, launch0.least_env, fairChoices_fair.cas, fairChoices_fair.clock, w_frames, w_args, w_heap, w_applies, trivial, trivial, w_case⟩
end start1
theorem witness_1 : WitnessClaimed_1 := ⟨start1.p0, start1.e0, start1.about1, start1.theMethod, start1.args0, start1.below0, start1.atStart⟩
end Jvm.Pilot.@@N@@
