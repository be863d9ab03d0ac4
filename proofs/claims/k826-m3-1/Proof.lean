import JvmDerived
import JvmDerived.Pilot.@@N@@Statement
import JvmDerived.Pilot.@@N@@Code
set_option linter.unusedVariables false
set_option linter.unusedSimpArgs false
namespace Jvm.Pilot.@@N@@
open Jvm Jvm.ClassFile Sem Op Lib Jvm.Free Jvm.Stand Jvm.LawKit Jvm.RoadKit Bundle Jvm.Pilot.@@N@@.Jvm.D
section Own
variable {p : Program} {l : Launch} {e : Env} {R : Room} {s : State} {m : MethodId} {args : Array Value} {below : List Frame} {meth : Method} {c : Code} {T T' : State} {locs : List Loc} {cells slots : Nat} {QQ : Option Value → Heap → List Loc → Prop} {kc ks : Nat} {f f' : JFrame}
/-- from here the run comes to the method's return, with what QQ says -/
def own_Goes (p : Program) (e : Env) (below : List Frame) (s : State) (QQ : Option Value → Heap → List Loc → Prop) (kc ks : Nat) (T : State) (f : JFrame) : Prop :=
  ∃ s₂ o, Steps p.tables e below (T.setTop f) s₂ ∧ s₂.status = .running ∧ Ended s₂ below o ∧ ∃ v L, o = .returned v ∧ QQ v s₂.heap L ∧ FrameEnd s o s₂ L kc ks
theorem own_step (st : ∀ target, Steps p.tables e below (T'.setTop f') target → Steps p.tables e below (T.setTop f) target) (h : own_Goes p e below s QQ kc ks T' f') : own_Goes p e below s QQ kc ks T f := by
  obtain ⟨s₂, o, h1, r⟩ := h
  exact ⟨s₂, o, st _ h1, r⟩
theorem own_jump (st : Steps p.tables e below (T.setTop f) (T'.setTop f')) (h : own_Goes p e below s QQ kc ks T' f') : own_Goes p e below s QQ kc ks T f := by
  obtain ⟨s₂, o, h1, r⟩ := h
  exact ⟨s₂, o, st.trans h1, r⟩
theorem own_out {v : Option Value} (X : Stand p l e R s m args below meth c T locs cells slots) (hlk : meth.locks = false) (hv : meth.sig.returnType = none → v = none)
    (st : ∀ fs, (∀ (f : JFrame) (acts : List Action), f.method = m → f.locked = none → f.entered = [] → (doReturn e (T.setTop f) acts v).1 = T.setFrames fs) → Steps p.tables e below (T.setTop f) (T.setFrames fs)) (hc : cells ≤ kc) (hs : slots ≤ ks) (hq : QQ v T.heap locs) : own_Goes p e below s QQ kc ks T f := by
  obtain ⟨fs, hr, hrun, hended, hW, hsame⟩ := X.leave (v := v) hv hlk
  exact ⟨_, _, st fs hr, hrun, hended, v, locs, rfl, hq, ⟨_, rfl⟩, hW, hsame.mono hc hs⟩
theorem own_staKeep {Z : State} {h h' : Heap} {C n d : String} {v : Value} {ws : List Addr} (F : Sta Z h C n d v) (K : Keep h h' ws) (q : ∀ x ∈ ws, ∃ cell : Cell, h[x]? = some cell ∧ cell.vm.isStatics = false) : Sta Z h' C n d v := by
  obtain ⟨cf, i, k, f, st, cell, h1, h2, h3, h4, h5, h6, h7⟩ := F
  refine ⟨cf, i, k, f, st, cell, h1, h2, h3, h4, K.2.1 st cell h5 (fun z => ?_), h6, h7⟩
  obtain ⟨c', g1, g2⟩ := q st z
  rw [h5] at g1
  cases g1
  rw [h6] at g2
  cases g2
theorem own_exaNS {Z : State} {h : Heap} {a : Addr} {C : String} (F : Exa Z h a C) : ∃ cell : Cell, h[a]? = some cell ∧ cell.vm.isStatics = false := by
  obtain ⟨cell, k, h1, -, -, h4, -⟩ := F
  exact ⟨cell, h1, h4⟩
end Own
def own_ch_58 (p1 : Int32) : Int32 := (0 : Int32)
def own_ch_54 (p1 : Int32) : Int32 := (1 : Int32)
def own_ch_42 (p1 : Int32) : Int32 := (if p1 < (65536 : Int32) then (own_ch_58 p1) else (if (1114111 : Int32) < p1 then (own_ch_58 p1) else (own_ch_54 p1)))
def own_ch_30 (p1 : Int32) : Int32 := (if p1 < (57344 : Int32) then (own_ch_42 p1) else (if (65533 : Int32) < p1 then (own_ch_42 p1) else (own_ch_54 p1)))
def own_ch_0 (p1 : Int32) : Int32 := (if p1 = (9 : Int32) then (own_ch_54 p1) else (if p1 = (10 : Int32) then (own_ch_54 p1) else (if p1 = (13 : Int32) then (own_ch_54 p1) else (if p1 < (32 : Int32) then (own_ch_30 p1) else (if (55295 : Int32) < p1 then (own_ch_30 p1) else (own_ch_54 p1))))))
theorem d1_0 : decode prog_137_method_2_code 0 = .ok (.iload_n 0, 1) := by decide +kernel
theorem d1_1 : decode prog_137_method_2_code 1 = .ok (.bipush 9, 2) := by decide +kernel
theorem d1_3 : decode prog_137_method_2_code 3 = .ok (.if_icmp .eq 51, 3) := by decide +kernel
theorem d1_6 : decode prog_137_method_2_code 6 = .ok (.iload_n 0, 1) := by decide +kernel
theorem d1_7 : decode prog_137_method_2_code 7 = .ok (.bipush 10, 2) := by decide +kernel
theorem d1_9 : decode prog_137_method_2_code 9 = .ok (.if_icmp .eq 45, 3) := by decide +kernel
theorem d1_12 : decode prog_137_method_2_code 12 = .ok (.iload_n 0, 1) := by decide +kernel
theorem d1_13 : decode prog_137_method_2_code 13 = .ok (.bipush 13, 2) := by decide +kernel
theorem d1_15 : decode prog_137_method_2_code 15 = .ok (.if_icmp .eq 39, 3) := by decide +kernel
theorem d1_18 : decode prog_137_method_2_code 18 = .ok (.iload_n 0, 1) := by decide +kernel
theorem d1_19 : decode prog_137_method_2_code 19 = .ok (.bipush 32, 2) := by decide +kernel
theorem d1_21 : decode prog_137_method_2_code 21 = .ok (.if_icmp .lt 9, 3) := by decide +kernel
theorem d1_24 : decode prog_137_method_2_code 24 = .ok (.iload_n 0, 1) := by decide +kernel
theorem d1_25 : decode prog_137_method_2_code 25 = .ok (.ldc 7, 2) := by decide +kernel
theorem d1_27 : decode prog_137_method_2_code 27 = .ok (.if_icmp .le 27, 3) := by decide +kernel
theorem d1_30 : decode prog_137_method_2_code 30 = .ok (.iload_n 0, 1) := by decide +kernel
theorem d1_31 : decode prog_137_method_2_code 31 = .ok (.ldc 8, 2) := by decide +kernel
theorem d1_33 : decode prog_137_method_2_code 33 = .ok (.if_icmp .lt 9, 3) := by decide +kernel
theorem d1_36 : decode prog_137_method_2_code 36 = .ok (.iload_n 0, 1) := by decide +kernel
theorem d1_37 : decode prog_137_method_2_code 37 = .ok (.ldc 9, 2) := by decide +kernel
theorem d1_39 : decode prog_137_method_2_code 39 = .ok (.if_icmp .le 15, 3) := by decide +kernel
theorem d1_42 : decode prog_137_method_2_code 42 = .ok (.iload_n 0, 1) := by decide +kernel
theorem d1_43 : decode prog_137_method_2_code 43 = .ok (.ldc 10, 2) := by decide +kernel
theorem d1_45 : decode prog_137_method_2_code 45 = .ok (.if_icmp .lt 13, 3) := by decide +kernel
theorem d1_48 : decode prog_137_method_2_code 48 = .ok (.iload_n 0, 1) := by decide +kernel
theorem d1_49 : decode prog_137_method_2_code 49 = .ok (.ldc 11, 2) := by decide +kernel
theorem d1_51 : decode prog_137_method_2_code 51 = .ok (.if_icmp .gt 7, 3) := by decide +kernel
theorem d1_54 : decode prog_137_method_2_code 54 = .ok (.iconst 1, 1) := by decide +kernel
theorem d1_55 : decode prog_137_method_2_code 55 = .ok (.goto 4, 3) := by decide +kernel
theorem d1_58 : decode prog_137_method_2_code 58 = .ok (.iconst 0, 1) := by decide +kernel
theorem d1_59 : decode prog_137_method_2_code 59 = .ok (.ireturn, 1) := by decide +kernel
theorem pn_0 : plainName "com/example/valbonne/valbonne/schema/XmlChars" = true := by first | (simp [plainName, overriddenIn]; done) | decide +kernel
theorem ef_1 (m : MethodId) (x0 : Int32) : entryFrame m #[(.int x0)] 1 = mkF m 0 #[.val (.int x0)] [] := by first | (simp [entryFrame, mkF, argsToLocals, Value.category]; done) | rfl
def Q1 (Z : State) (p1 : Int32) (h0 : Heap) (n0 : Nat) (v : Option Value) (h : Heap) (L : List Loc) : Prop := v = some (.int (own_ch_0 p1)) ∧ L = [] ∧ h = h0
abbrev R1 : Room := { frames := 0, cells := 0, slots := 0, locals := 0 }
set_option maxRecDepth 65536 in
set_option maxHeartbeats 40000000 in
theorem rm1 (l : Launch) (Z : State) (a0 : Array Value) (hw : ∀ d ∈ tables_1, d.before a0 Z = true) (ws : List Jvm.Cond) (p1 : Int32) (h0 : Heap) (n0 : Nat) (Z0 : n0 ≤ h0.size)  :
    MetFree l (⟨"com/example/valbonne/valbonne/schema/XmlChars", "isChar", "(I)Z"⟩ : MethodName) (head1 (Jvm.Cond.code (⟨"com/example/valbonne/valbonne/schema/XmlChars", "isChar", "(I)Z"⟩ : MethodName) prog_137_method_2_code 1 (some .boolean) :: ws) R1) (fun a U => a = #[(.int p1)] ∧ Z.Warmed39 U.vm ∧ U.heap = h0) (fun _ _ _ _ _ => True) (fun _ U o U' => ∃ v L, o = .returned v ∧ Q1 Z p1 h0 n0 v U'.heap L ∧ FrameEnd U o U' L R1.cells R1.slots) := by
  refine MetFree.of_bodySF (plainFor_of_name pn_0) hisR ?_
  intro p e s m args below meth c s₁ Bd hml0 hP hK
  obtain ⟨rfl, hZ, hh⟩ := hP
  have hx := Bd.exec
  have hby := Bd.bytes
  have hlk : meth.locks = false := BodyLoose.notSynchronized Bd
  have hml : c.maxLocals = 1 := hml0
  have hown : s.vm.findClass "com/example/valbonne/valbonne/schema/XmlChars" = some m.cls := findClass_of_methodNamed Bd.named
  have hnm := (name_of_methodNamed Bd.named Bd.method).1
  have X0 : Stand p l e R1 s m #[(.int p1)] below meth c s₁ [] 0 0 := Stand.of_body Bd
  have e0 : s₁.heap = h0 := by rw [← hh, Bd.state]; rfl
  have N0 := Fr.nil n0
  show own_Goes p e below s (Q1 Z p1 h0 n0) R1.cells R1.slots s₁ (entryFrame m #[(.int p1)] 1)
  rw [ef_1 m p1]
  have K_58 : ∀ (T_58 : State), Stand p l e R1 s m #[(.int p1)] below meth c T_58 [] 0 0 → T_58.heap = h0 → own_ch_0 p1 = own_ch_58 p1 → own_Goes p e below s (Q1 Z p1 h0 n0) R1.cells R1.slots T_58 (mkF m 58 #[.val (.int p1)] []) := by
    intro T_58 X_58 e_58 hq_58
    refine own_step (f' := (mkF m 59 #[.val (.int p1)] [(.int (0 : Int32))])) (fun _ k => XS.iconst X_58.here hx rfl (hb hby d1_58) k) ?_
    refine own_out (v := some (.int (0 : Int32))) X_58 hlk (fun h => by rw [Bd.returns] at h; cases h) (fun fs hr => retN X_58 hx (t := .boolean) Bd.returns (by simp) (hb hby d1_59) hr) (by decide) (by decide) ?_
    rw [e_58]
    exact ⟨(by rw [hq_58, own_ch_58]), rfl, rfl⟩
  have K_54 : ∀ (T_54 : State), Stand p l e R1 s m #[(.int p1)] below meth c T_54 [] 0 0 → T_54.heap = h0 → own_ch_0 p1 = own_ch_54 p1 → own_Goes p e below s (Q1 Z p1 h0 n0) R1.cells R1.slots T_54 (mkF m 54 #[.val (.int p1)] []) := by
    intro T_54 X_54 e_54 hq_54
    refine own_step (f' := (mkF m 55 #[.val (.int p1)] [(.int (1 : Int32))])) (fun _ k => XS.iconst X_54.here hx rfl (hb hby d1_54) k) ?_
    refine own_step (f' := (mkF m 59 #[.val (.int p1)] [(.int (1 : Int32))])) (fun _ k => XS.goto X_54.here hx rfl (pc0 := 55) (pc' := 59) rfl (hb hby d1_55) (by decide) (by decide) k) ?_
    refine own_out (v := some (.int (1 : Int32))) X_54 hlk (fun h => by rw [Bd.returns] at h; cases h) (fun fs hr => retN X_54 hx (t := .boolean) Bd.returns (by simp) (hb hby d1_59) hr) (by decide) (by decide) ?_
    rw [e_54]
    exact ⟨(by rw [hq_54, own_ch_54]), rfl, rfl⟩
  have K_42 : ∀ (T_42 : State), Stand p l e R1 s m #[(.int p1)] below meth c T_42 [] 0 0 → T_42.heap = h0 → own_ch_0 p1 = own_ch_42 p1 → own_Goes p e below s (Q1 Z p1 h0 n0) R1.cells R1.slots T_42 (mkF m 42 #[.val (.int p1)] []) := by
    intro T_42 X_42 e_42 hq_42
    refine own_step (f' := (mkF m 43 #[.val (.int p1)] [(.int p1)])) (fun _ k => XS.iloadN X_42.here hx rfl (hb hby d1_42) rfl k) ?_
    refine own_step (f' := (mkF m 45 #[.val (.int p1)] [(.int (65536 : Int32)), (.int p1)])) (fun _ k => X_42.ldcInt hx hown (mvT hZ (hw _ (List.mem_of_getElem? (i := 18) rfl))) (g := (mkF m 43 #[.val (.int p1)] [(.int p1)])) rfl (hb hby d1_43) _ k) ?_
    by_cases hc45_1 : p1 < (65536 : Int32)
    · refine own_step (f' := (mkF m 58 #[.val (.int p1)] [])) (fun _ k => XS.icmpYes X_42.here hx rfl (pc0 := 45) (pc' := 58) rfl (hb hby d1_45) rfl (tlt hc45_1).1 (by decide) (by decide) k) ?_
      exact K_58 _ X_42 e_42 (by rw [hq_42, own_ch_42, if_pos hc45_1])
    · refine own_step (f' := (mkF m 48 #[.val (.int p1)] [])) (fun _ k => XS.icmpNo X_42.here hx rfl (hb hby d1_45) rfl (flt hc45_1).1 k) ?_
      refine own_step (f' := (mkF m 49 #[.val (.int p1)] [(.int p1)])) (fun _ k => XS.iloadN X_42.here hx rfl (hb hby d1_48) rfl k) ?_
      refine own_step (f' := (mkF m 51 #[.val (.int p1)] [(.int (1114111 : Int32)), (.int p1)])) (fun _ k => X_42.ldcInt hx hown (mvT hZ (hw _ (List.mem_of_getElem? (i := 25) rfl))) (g := (mkF m 49 #[.val (.int p1)] [(.int p1)])) rfl (hb hby d1_49) _ k) ?_
      by_cases hc51_2 : (1114111 : Int32) < p1
      · refine own_step (f' := (mkF m 58 #[.val (.int p1)] [])) (fun _ k => XS.icmpYes X_42.here hx rfl (pc0 := 51) (pc' := 58) rfl (hb hby d1_51) rfl (tlt hc51_2).2.2.1 (by decide) (by decide) k) ?_
        exact K_58 _ X_42 e_42 (by rw [hq_42, own_ch_42, if_neg hc45_1, if_pos hc51_2])
      · refine own_step (f' := (mkF m 54 #[.val (.int p1)] [])) (fun _ k => XS.icmpNo X_42.here hx rfl (hb hby d1_51) rfl (flt hc51_2).2.2.1 k) ?_
        exact K_54 _ X_42 e_42 (by rw [hq_42, own_ch_42, if_neg hc45_1, if_neg hc51_2])
  have K_30 : ∀ (T_30 : State), Stand p l e R1 s m #[(.int p1)] below meth c T_30 [] 0 0 → T_30.heap = h0 → own_ch_0 p1 = own_ch_30 p1 → own_Goes p e below s (Q1 Z p1 h0 n0) R1.cells R1.slots T_30 (mkF m 30 #[.val (.int p1)] []) := by
    intro T_30 X_30 e_30 hq_30
    refine own_step (f' := (mkF m 31 #[.val (.int p1)] [(.int p1)])) (fun _ k => XS.iloadN X_30.here hx rfl (hb hby d1_30) rfl k) ?_
    refine own_step (f' := (mkF m 33 #[.val (.int p1)] [(.int (57344 : Int32)), (.int p1)])) (fun _ k => X_30.ldcInt hx hown (mvT hZ (hw _ (List.mem_of_getElem? (i := 17) rfl))) (g := (mkF m 31 #[.val (.int p1)] [(.int p1)])) rfl (hb hby d1_31) _ k) ?_
    by_cases hc33_3 : p1 < (57344 : Int32)
    · refine own_step (f' := (mkF m 42 #[.val (.int p1)] [])) (fun _ k => XS.icmpYes X_30.here hx rfl (pc0 := 33) (pc' := 42) rfl (hb hby d1_33) rfl (tlt hc33_3).1 (by decide) (by decide) k) ?_
      exact K_42 _ X_30 e_30 (by rw [hq_30, own_ch_30, if_pos hc33_3])
    · refine own_step (f' := (mkF m 36 #[.val (.int p1)] [])) (fun _ k => XS.icmpNo X_30.here hx rfl (hb hby d1_33) rfl (flt hc33_3).1 k) ?_
      refine own_step (f' := (mkF m 37 #[.val (.int p1)] [(.int p1)])) (fun _ k => XS.iloadN X_30.here hx rfl (hb hby d1_36) rfl k) ?_
      refine own_step (f' := (mkF m 39 #[.val (.int p1)] [(.int (65533 : Int32)), (.int p1)])) (fun _ k => X_30.ldcInt hx hown (mvT hZ (hw _ (List.mem_of_getElem? (i := 24) rfl))) (g := (mkF m 37 #[.val (.int p1)] [(.int p1)])) rfl (hb hby d1_37) _ k) ?_
      by_cases hc39_4 : (65533 : Int32) < p1
      · refine own_step (f' := (mkF m 42 #[.val (.int p1)] [])) (fun _ k => XS.icmpNo X_30.here hx rfl (hb hby d1_39) rfl (tlt hc39_4).2.2.2 k) ?_
        exact K_42 _ X_30 e_30 (by rw [hq_30, own_ch_30, if_neg hc33_3, if_pos hc39_4])
      · refine own_step (f' := (mkF m 54 #[.val (.int p1)] [])) (fun _ k => XS.icmpYes X_30.here hx rfl (pc0 := 39) (pc' := 54) rfl (hb hby d1_39) rfl (flt hc39_4).2.2.2 (by decide) (by decide) k) ?_
        exact K_54 _ X_30 e_30 (by rw [hq_30, own_ch_30, if_neg hc33_3, if_neg hc39_4])
  refine own_step (f' := (mkF m 1 #[.val (.int p1)] [(.int p1)])) (fun _ k => XS.iloadN X0.here hx rfl (hb hby d1_0) rfl k) ?_
  refine own_step (f' := (mkF m 3 #[.val (.int p1)] [(.int (9 : Int32)), (.int p1)])) (fun _ k => XS.bipush X0.here hx rfl (hb hby d1_1) k) ?_
  by_cases hc3_5 : p1 = (9 : Int32)
  · refine own_step (f' := (mkF m 54 #[.val (.int p1)] [])) (fun _ k => XS.icmpYes X0.here hx rfl (pc0 := 3) (pc' := 54) rfl (hb hby d1_3) rfl (teq hc3_5).1 (by decide) (by decide) k) ?_
    exact K_54 _ X0 e0 (by rw [own_ch_0, if_pos hc3_5])
  · refine own_step (f' := (mkF m 6 #[.val (.int p1)] [])) (fun _ k => XS.icmpNo X0.here hx rfl (hb hby d1_3) rfl (feq hc3_5).1 k) ?_
    refine own_step (f' := (mkF m 7 #[.val (.int p1)] [(.int p1)])) (fun _ k => XS.iloadN X0.here hx rfl (hb hby d1_6) rfl k) ?_
    refine own_step (f' := (mkF m 9 #[.val (.int p1)] [(.int (10 : Int32)), (.int p1)])) (fun _ k => XS.bipush X0.here hx rfl (hb hby d1_7) k) ?_
    by_cases hc9_6 : p1 = (10 : Int32)
    · refine own_step (f' := (mkF m 54 #[.val (.int p1)] [])) (fun _ k => XS.icmpYes X0.here hx rfl (pc0 := 9) (pc' := 54) rfl (hb hby d1_9) rfl (teq hc9_6).1 (by decide) (by decide) k) ?_
      exact K_54 _ X0 e0 (by rw [own_ch_0, if_neg hc3_5, if_pos hc9_6])
    · refine own_step (f' := (mkF m 12 #[.val (.int p1)] [])) (fun _ k => XS.icmpNo X0.here hx rfl (hb hby d1_9) rfl (feq hc9_6).1 k) ?_
      refine own_step (f' := (mkF m 13 #[.val (.int p1)] [(.int p1)])) (fun _ k => XS.iloadN X0.here hx rfl (hb hby d1_12) rfl k) ?_
      refine own_step (f' := (mkF m 15 #[.val (.int p1)] [(.int (13 : Int32)), (.int p1)])) (fun _ k => XS.bipush X0.here hx rfl (hb hby d1_13) k) ?_
      by_cases hc15_7 : p1 = (13 : Int32)
      · refine own_step (f' := (mkF m 54 #[.val (.int p1)] [])) (fun _ k => XS.icmpYes X0.here hx rfl (pc0 := 15) (pc' := 54) rfl (hb hby d1_15) rfl (teq hc15_7).1 (by decide) (by decide) k) ?_
        exact K_54 _ X0 e0 (by rw [own_ch_0, if_neg hc3_5, if_neg hc9_6, if_pos hc15_7])
      · refine own_step (f' := (mkF m 18 #[.val (.int p1)] [])) (fun _ k => XS.icmpNo X0.here hx rfl (hb hby d1_15) rfl (feq hc15_7).1 k) ?_
        refine own_step (f' := (mkF m 19 #[.val (.int p1)] [(.int p1)])) (fun _ k => XS.iloadN X0.here hx rfl (hb hby d1_18) rfl k) ?_
        refine own_step (f' := (mkF m 21 #[.val (.int p1)] [(.int (32 : Int32)), (.int p1)])) (fun _ k => XS.bipush X0.here hx rfl (hb hby d1_19) k) ?_
        by_cases hc21_8 : p1 < (32 : Int32)
        · refine own_step (f' := (mkF m 30 #[.val (.int p1)] [])) (fun _ k => XS.icmpYes X0.here hx rfl (pc0 := 21) (pc' := 30) rfl (hb hby d1_21) rfl (tlt hc21_8).1 (by decide) (by decide) k) ?_
          exact K_30 _ X0 e0 (by rw [own_ch_0, if_neg hc3_5, if_neg hc9_6, if_neg hc15_7, if_pos hc21_8])
        · refine own_step (f' := (mkF m 24 #[.val (.int p1)] [])) (fun _ k => XS.icmpNo X0.here hx rfl (hb hby d1_21) rfl (flt hc21_8).1 k) ?_
          refine own_step (f' := (mkF m 25 #[.val (.int p1)] [(.int p1)])) (fun _ k => XS.iloadN X0.here hx rfl (hb hby d1_24) rfl k) ?_
          refine own_step (f' := (mkF m 27 #[.val (.int p1)] [(.int (55295 : Int32)), (.int p1)])) (fun _ k => X0.ldcInt hx hown (mvT hZ (hw _ (List.mem_of_getElem? (i := 23) rfl))) (g := (mkF m 25 #[.val (.int p1)] [(.int p1)])) rfl (hb hby d1_25) _ k) ?_
          by_cases hc27_9 : (55295 : Int32) < p1
          · refine own_step (f' := (mkF m 30 #[.val (.int p1)] [])) (fun _ k => XS.icmpNo X0.here hx rfl (hb hby d1_27) rfl (tlt hc27_9).2.2.2 k) ?_
            exact K_30 _ X0 e0 (by rw [own_ch_0, if_neg hc3_5, if_neg hc9_6, if_neg hc15_7, if_neg hc21_8, if_pos hc27_9])
          · refine own_step (f' := (mkF m 54 #[.val (.int p1)] [])) (fun _ k => XS.icmpYes X0.here hx rfl (pc0 := 27) (pc' := 54) rfl (hb hby d1_27) rfl (flt hc27_9).2.2.2 (by decide) (by decide) k) ?_
            exact K_54 _ X0 e0 (by rw [own_ch_0, if_neg hc3_5, if_neg hc9_6, if_neg hc15_7, if_neg hc21_8, if_neg hc27_9])
def own_e1 (p1 : Int32) : Int32 := (if p1 < (0 : Int32) then (0 : Int32) else (if (1114111 : Int32) < p1 then (0 : Int32) else (1 : Int32)))
def own_e2 (p1 : Int32) : Int32 := (if p1 < (32 : Int32) then (if p1 = (9 : Int32) then (0 : Int32) else (if p1 = (10 : Int32) then (0 : Int32) else (if p1 = (13 : Int32) then (0 : Int32) else (1 : Int32)))) else (0 : Int32))
def own_e3 (p1 : Int32) : Int32 := (if p1 < (55296 : Int32) then (0 : Int32) else (if (57343 : Int32) < p1 then (0 : Int32) else (1 : Int32)))
def own_e4 (p1 : Int32) : Int32 := (if p1 = (65534 : Int32) then (1 : Int32) else (if p1 = (65535 : Int32) then (1 : Int32) else (0 : Int32)))
def own_ex (p1 : Int32) : Int32 := (if own_e1 p1 = (0 : Int32) then (0 : Int32) else (if own_e2 p1 = (0 : Int32) then (if own_e3 p1 = (0 : Int32) then (if own_e4 p1 = (0 : Int32) then (1 : Int32) else (0 : Int32)) else (0 : Int32)) else (0 : Int32)))
theorem d2_0 : decode method_3_code 0 = .ok (.iload_n 0, 1) := by decide +kernel
theorem d2_1 : decode method_3_code 1 = .ok (.ifCond .lt 13, 3) := by decide +kernel
theorem d2_4 : decode method_3_code 4 = .ok (.iload_n 0, 1) := by decide +kernel
theorem d2_5 : decode method_3_code 5 = .ok (.ldc 15, 2) := by decide +kernel
theorem d2_7 : decode method_3_code 7 = .ok (.if_icmp .gt 7, 3) := by decide +kernel
theorem d2_10 : decode method_3_code 10 = .ok (.iconst 1, 1) := by decide +kernel
theorem d2_11 : decode method_3_code 11 = .ok (.goto 4, 3) := by decide +kernel
theorem d2_14 : decode method_3_code 14 = .ok (.iconst 0, 1) := by decide +kernel
theorem d2_15 : decode method_3_code 15 = .ok (.istore_n 1, 1) := by decide +kernel
theorem d2_16 : decode method_3_code 16 = .ok (.iload_n 0, 1) := by decide +kernel
theorem d2_17 : decode method_3_code 17 = .ok (.bipush 32, 2) := by decide +kernel
theorem d2_19 : decode method_3_code 19 = .ok (.if_icmp .ge 25, 3) := by decide +kernel
theorem d2_22 : decode method_3_code 22 = .ok (.iload_n 0, 1) := by decide +kernel
theorem d2_23 : decode method_3_code 23 = .ok (.bipush 9, 2) := by decide +kernel
theorem d2_25 : decode method_3_code 25 = .ok (.if_icmp .eq 19, 3) := by decide +kernel
theorem d2_28 : decode method_3_code 28 = .ok (.iload_n 0, 1) := by decide +kernel
theorem d2_29 : decode method_3_code 29 = .ok (.bipush 10, 2) := by decide +kernel
theorem d2_31 : decode method_3_code 31 = .ok (.if_icmp .eq 13, 3) := by decide +kernel
theorem d2_34 : decode method_3_code 34 = .ok (.iload_n 0, 1) := by decide +kernel
theorem d2_35 : decode method_3_code 35 = .ok (.bipush 13, 2) := by decide +kernel
theorem d2_37 : decode method_3_code 37 = .ok (.if_icmp .eq 7, 3) := by decide +kernel
theorem d2_40 : decode method_3_code 40 = .ok (.iconst 1, 1) := by decide +kernel
theorem d2_41 : decode method_3_code 41 = .ok (.goto 4, 3) := by decide +kernel
theorem d2_44 : decode method_3_code 44 = .ok (.iconst 0, 1) := by decide +kernel
theorem d2_45 : decode method_3_code 45 = .ok (.istore_n 2, 1) := by decide +kernel
theorem d2_46 : decode method_3_code 46 = .ok (.iload_n 0, 1) := by decide +kernel
theorem d2_47 : decode method_3_code 47 = .ok (.ldc 8, 2) := by decide +kernel
theorem d2_49 : decode method_3_code 49 = .ok (.if_icmp .lt 13, 3) := by decide +kernel
theorem d2_52 : decode method_3_code 52 = .ok (.iload_n 0, 1) := by decide +kernel
theorem d2_53 : decode method_3_code 53 = .ok (.ldc 9, 2) := by decide +kernel
theorem d2_55 : decode method_3_code 55 = .ok (.if_icmp .gt 7, 3) := by decide +kernel
theorem d2_58 : decode method_3_code 58 = .ok (.iconst 1, 1) := by decide +kernel
theorem d2_59 : decode method_3_code 59 = .ok (.goto 4, 3) := by decide +kernel
theorem d2_62 : decode method_3_code 62 = .ok (.iconst 0, 1) := by decide +kernel
theorem d2_63 : decode method_3_code 63 = .ok (.istore_n 3, 1) := by decide +kernel
theorem d2_64 : decode method_3_code 64 = .ok (.iload_n 0, 1) := by decide +kernel
theorem d2_65 : decode method_3_code 65 = .ok (.ldc 12, 2) := by decide +kernel
theorem d2_67 : decode method_3_code 67 = .ok (.if_icmp .eq 9, 3) := by decide +kernel
theorem d2_70 : decode method_3_code 70 = .ok (.iload_n 0, 1) := by decide +kernel
theorem d2_71 : decode method_3_code 71 = .ok (.ldc 13, 2) := by decide +kernel
theorem d2_73 : decode method_3_code 73 = .ok (.if_icmp .ne 7, 3) := by decide +kernel
theorem d2_76 : decode method_3_code 76 = .ok (.iconst 1, 1) := by decide +kernel
theorem d2_77 : decode method_3_code 77 = .ok (.goto 4, 3) := by decide +kernel
theorem d2_80 : decode method_3_code 80 = .ok (.iconst 0, 1) := by decide +kernel
theorem d2_81 : decode method_3_code 81 = .ok (.istore 4, 2) := by decide +kernel
theorem d2_83 : decode method_3_code 83 = .ok (.iload_n 1, 1) := by decide +kernel
theorem d2_84 : decode method_3_code 84 = .ok (.ifCond .eq 20, 3) := by decide +kernel
theorem d2_87 : decode method_3_code 87 = .ok (.iload_n 2, 1) := by decide +kernel
theorem d2_88 : decode method_3_code 88 = .ok (.ifCond .ne 16, 3) := by decide +kernel
theorem d2_91 : decode method_3_code 91 = .ok (.iload_n 3, 1) := by decide +kernel
theorem d2_92 : decode method_3_code 92 = .ok (.ifCond .ne 12, 3) := by decide +kernel
theorem d2_95 : decode method_3_code 95 = .ok (.iload 4, 2) := by decide +kernel
theorem d2_97 : decode method_3_code 97 = .ok (.ifCond .ne 7, 3) := by decide +kernel
theorem d2_100 : decode method_3_code 100 = .ok (.iconst 1, 1) := by decide +kernel
theorem d2_101 : decode method_3_code 101 = .ok (.goto 4, 3) := by decide +kernel
theorem d2_104 : decode method_3_code 104 = .ok (.iconst 0, 1) := by decide +kernel
theorem d2_105 : decode method_3_code 105 = .ok (.ireturn, 1) := by decide +kernel
theorem pn_1 : plainName "com/example/valbonne/valbonne/schema/XmlCharsIsCharPinLaw" = true := by first | (simp [plainName, overriddenIn]; done) | decide +kernel
theorem ef_2 (m : MethodId) (x0 : Int32) : entryFrame m #[(.int x0)] 5 = mkF m 0 #[.val (.int x0), .unset, .unset, .unset, .unset] [] := by first | (simp [entryFrame, mkF, argsToLocals, Value.category]; done) | rfl
def Q2 (Z : State) (p1 : Int32) (h0 : Heap) (n0 : Nat) (v : Option Value) (h : Heap) (L : List Loc) : Prop := v = some (.int (own_ex p1)) ∧ L = [] ∧ h = h0
abbrev R2 : Room := { frames := 0, cells := 0, slots := 0, locals := 0 }
set_option maxRecDepth 65536 in
set_option maxHeartbeats 40000000 in
theorem rm2 (l : Launch) (Z : State) (a0 : Array Value) (hw : ∀ d ∈ tables_1, d.before a0 Z = true) (ws : List Jvm.Cond) (p1 : Int32) (h0 : Heap) (n0 : Nat) (Z0 : n0 ≤ h0.size)  :
    MetFree l (⟨"com/example/valbonne/valbonne/schema/XmlCharsIsCharPinLaw", "expected", "(I)Z"⟩ : MethodName) (head1 (Jvm.Cond.code (⟨"com/example/valbonne/valbonne/schema/XmlCharsIsCharPinLaw", "expected", "(I)Z"⟩ : MethodName) method_3_code 5 (some .boolean) :: ws) R2) (fun a U => a = #[(.int p1)] ∧ Z.Warmed39 U.vm ∧ U.heap = h0) (fun _ _ _ _ _ => True) (fun _ U o U' => ∃ v L, o = .returned v ∧ Q2 Z p1 h0 n0 v U'.heap L ∧ FrameEnd U o U' L R2.cells R2.slots) := by
  refine MetFree.of_bodySF (plainFor_of_name pn_1) hisR ?_
  intro p e s m args below meth c s₁ Bd hml0 hP hK
  obtain ⟨rfl, hZ, hh⟩ := hP
  have hx := Bd.exec
  have hby := Bd.bytes
  have hlk : meth.locks = false := BodyLoose.notSynchronized Bd
  have hml : c.maxLocals = 5 := hml0
  have hown : s.vm.findClass "com/example/valbonne/valbonne/schema/XmlCharsIsCharPinLaw" = some m.cls := findClass_of_methodNamed Bd.named
  have hnm := (name_of_methodNamed Bd.named Bd.method).1
  have X0 : Stand p l e R2 s m #[(.int p1)] below meth c s₁ [] 0 0 := Stand.of_body Bd
  have e0 : s₁.heap = h0 := by rw [← hh, Bd.state]; rfl
  have N0 := Fr.nil n0
  show own_Goes p e below s (Q2 Z p1 h0 n0) R2.cells R2.slots s₁ (entryFrame m #[(.int p1)] 5)
  rw [ef_2 m p1]
  refine own_step (f' := (mkF m 1 #[.val (.int p1), .unset, .unset, .unset, .unset] [(.int p1)])) (fun _ k => XS.iloadN X0.here hx rfl (hb hby d2_0) rfl k) ?_
  have J1_3 : ∀ (T1_3 : State) (v1_3_s0 : Int32), Stand p l e R2 s m #[(.int p1)] below meth c T1_3 [] 0 0 → T1_3.heap = h0 → v1_3_s0 = (if p1 < (0 : Int32) then (0 : Int32) else (if (1114111 : Int32) < p1 then (0 : Int32) else (1 : Int32))) → own_Goes p e below s (Q2 Z p1 h0 n0) R2.cells R2.slots T1_3 (mkF m 15 #[.val (.int p1), .unset, .unset, .unset, .unset] [(.int v1_3_s0)]) := by
    intro T1_3 v1_3_s0 X1_3 e1_3 hv1_3_0
    replace hv1_3_0 : v1_3_s0 = own_e1 p1 := hv1_3_0
    refine own_step (f' := (mkF m 16 #[.val (.int p1), .val (.int v1_3_s0), .unset, .unset, .unset] [])) (fun _ k => XS.istoreN X1_3.here hx rfl (hb hby d2_15) rfl (l' := #[.val (.int p1), .val (.int v1_3_s0), .unset, .unset, .unset]) rfl k) ?_
    refine own_step (f' := (mkF m 17 #[.val (.int p1), .val (.int v1_3_s0), .unset, .unset, .unset] [(.int p1)])) (fun _ k => XS.iloadN X1_3.here hx rfl (hb hby d2_16) rfl k) ?_
    refine own_step (f' := (mkF m 19 #[.val (.int p1), .val (.int v1_3_s0), .unset, .unset, .unset] [(.int (32 : Int32)), (.int p1)])) (fun _ k => XS.bipush X1_3.here hx rfl (hb hby d2_17) k) ?_
    have J19_8 : ∀ (T19_8 : State) (v19_8_s0 : Int32), Stand p l e R2 s m #[(.int p1)] below meth c T19_8 [] 0 0 → T19_8.heap = h0 → v19_8_s0 = (if p1 < (32 : Int32) then (if p1 = (9 : Int32) then (0 : Int32) else (if p1 = (10 : Int32) then (0 : Int32) else (if p1 = (13 : Int32) then (0 : Int32) else (1 : Int32)))) else (0 : Int32)) → own_Goes p e below s (Q2 Z p1 h0 n0) R2.cells R2.slots T19_8 (mkF m 45 #[.val (.int p1), .val (.int v1_3_s0), .unset, .unset, .unset] [(.int v19_8_s0)]) := by
      intro T19_8 v19_8_s0 X19_8 e19_8 hv19_8_0
      replace hv19_8_0 : v19_8_s0 = own_e2 p1 := hv19_8_0
      refine own_step (f' := (mkF m 46 #[.val (.int p1), .val (.int v1_3_s0), .val (.int v19_8_s0), .unset, .unset] [])) (fun _ k => XS.istoreN X19_8.here hx rfl (hb hby d2_45) rfl (l' := #[.val (.int p1), .val (.int v1_3_s0), .val (.int v19_8_s0), .unset, .unset]) rfl k) ?_
      refine own_step (f' := (mkF m 47 #[.val (.int p1), .val (.int v1_3_s0), .val (.int v19_8_s0), .unset, .unset] [(.int p1)])) (fun _ k => XS.iloadN X19_8.here hx rfl (hb hby d2_46) rfl k) ?_
      refine own_step (f' := (mkF m 49 #[.val (.int p1), .val (.int v1_3_s0), .val (.int v19_8_s0), .unset, .unset] [(.int (55296 : Int32)), (.int p1)])) (fun _ k => X19_8.ldcInt hx hown (mvT hZ (hw _ (List.mem_of_getElem? (i := 2) rfl))) (g := (mkF m 47 #[.val (.int p1), .val (.int v1_3_s0), .val (.int v19_8_s0), .unset, .unset] [(.int p1)])) rfl (hb hby d2_47) _ k) ?_
      have J49_11 : ∀ (T49_11 : State) (v49_11_s0 : Int32), Stand p l e R2 s m #[(.int p1)] below meth c T49_11 [] 0 0 → T49_11.heap = h0 → v49_11_s0 = (if p1 < (55296 : Int32) then (0 : Int32) else (if (57343 : Int32) < p1 then (0 : Int32) else (1 : Int32))) → own_Goes p e below s (Q2 Z p1 h0 n0) R2.cells R2.slots T49_11 (mkF m 63 #[.val (.int p1), .val (.int v1_3_s0), .val (.int v19_8_s0), .unset, .unset] [(.int v49_11_s0)]) := by
        intro T49_11 v49_11_s0 X49_11 e49_11 hv49_11_0
        replace hv49_11_0 : v49_11_s0 = own_e3 p1 := hv49_11_0
        refine own_step (f' := (mkF m 64 #[.val (.int p1), .val (.int v1_3_s0), .val (.int v19_8_s0), .val (.int v49_11_s0), .unset] [])) (fun _ k => XS.istoreN X49_11.here hx rfl (hb hby d2_63) rfl (l' := #[.val (.int p1), .val (.int v1_3_s0), .val (.int v19_8_s0), .val (.int v49_11_s0), .unset]) rfl k) ?_
        refine own_step (f' := (mkF m 65 #[.val (.int p1), .val (.int v1_3_s0), .val (.int v19_8_s0), .val (.int v49_11_s0), .unset] [(.int p1)])) (fun _ k => XS.iloadN X49_11.here hx rfl (hb hby d2_64) rfl k) ?_
        refine own_step (f' := (mkF m 67 #[.val (.int p1), .val (.int v1_3_s0), .val (.int v19_8_s0), .val (.int v49_11_s0), .unset] [(.int (65534 : Int32)), (.int p1)])) (fun _ k => X49_11.ldcInt hx hown (mvT hZ (hw _ (List.mem_of_getElem? (i := 6) rfl))) (g := (mkF m 65 #[.val (.int p1), .val (.int v1_3_s0), .val (.int v19_8_s0), .val (.int v49_11_s0), .unset] [(.int p1)])) rfl (hb hby d2_65) _ k) ?_
        have J67_14 : ∀ (T67_14 : State) (v67_14_s0 : Int32), Stand p l e R2 s m #[(.int p1)] below meth c T67_14 [] 0 0 → T67_14.heap = h0 → v67_14_s0 = (if p1 = (65534 : Int32) then (1 : Int32) else (if p1 = (65535 : Int32) then (1 : Int32) else (0 : Int32))) → own_Goes p e below s (Q2 Z p1 h0 n0) R2.cells R2.slots T67_14 (mkF m 81 #[.val (.int p1), .val (.int v1_3_s0), .val (.int v19_8_s0), .val (.int v49_11_s0), .unset] [(.int v67_14_s0)]) := by
          intro T67_14 v67_14_s0 X67_14 e67_14 hv67_14_0
          replace hv67_14_0 : v67_14_s0 = own_e4 p1 := hv67_14_0
          refine own_step (f' := (mkF m 83 #[.val (.int p1), .val (.int v1_3_s0), .val (.int v19_8_s0), .val (.int v49_11_s0), .val (.int v67_14_s0)] [])) (fun _ k => XS.istore X67_14.here hx rfl (hb hby d2_81) rfl (l' := #[.val (.int p1), .val (.int v1_3_s0), .val (.int v19_8_s0), .val (.int v49_11_s0), .val (.int v67_14_s0)]) rfl k) ?_
          refine own_step (f' := (mkF m 84 #[.val (.int p1), .val (.int v1_3_s0), .val (.int v19_8_s0), .val (.int v49_11_s0), .val (.int v67_14_s0)] [(.int v1_3_s0)])) (fun _ k => XS.iloadN X67_14.here hx rfl (hb hby d2_83) rfl k) ?_
          by_cases hc84_15 : v1_3_s0 = (0 : Int32)
          · refine own_step (f' := (mkF m 104 #[.val (.int p1), .val (.int v1_3_s0), .val (.int v19_8_s0), .val (.int v49_11_s0), .val (.int v67_14_s0)] [])) (fun _ k => XS.ifYes X67_14.here hx rfl (pc0 := 84) (pc' := 104) rfl (hb hby d2_84) rfl ((if0 _ _).trans (teq hc84_15).1) (by decide) (by decide) k) ?_
            refine own_step (f' := (mkF m 105 #[.val (.int p1), .val (.int v1_3_s0), .val (.int v19_8_s0), .val (.int v49_11_s0), .val (.int v67_14_s0)] [(.int (0 : Int32))])) (fun _ k => XS.iconst X67_14.here hx rfl (hb hby d2_104) k) ?_
            refine own_out (v := some (.int (0 : Int32))) X67_14 hlk (fun h => by rw [Bd.returns] at h; cases h) (fun fs hr => retN X67_14 hx (t := .boolean) Bd.returns (by simp) (hb hby d2_105) hr) (by decide) (by decide) ?_
            rw [e67_14]
            subst hv1_3_0 hv19_8_0 hv49_11_0 hv67_14_0
            exact ⟨(by rw [own_ex, if_pos hc84_15]), rfl, rfl⟩
          · refine own_step (f' := (mkF m 87 #[.val (.int p1), .val (.int v1_3_s0), .val (.int v19_8_s0), .val (.int v49_11_s0), .val (.int v67_14_s0)] [])) (fun _ k => XS.ifNo X67_14.here hx rfl (hb hby d2_84) rfl ((if0 _ _).trans (feq hc84_15).1) k) ?_
            refine own_step (f' := (mkF m 88 #[.val (.int p1), .val (.int v1_3_s0), .val (.int v19_8_s0), .val (.int v49_11_s0), .val (.int v67_14_s0)] [(.int v19_8_s0)])) (fun _ k => XS.iloadN X67_14.here hx rfl (hb hby d2_87) rfl k) ?_
            by_cases hc88_16 : v19_8_s0 = (0 : Int32)
            · refine own_step (f' := (mkF m 91 #[.val (.int p1), .val (.int v1_3_s0), .val (.int v19_8_s0), .val (.int v49_11_s0), .val (.int v67_14_s0)] [])) (fun _ k => XS.ifNo X67_14.here hx rfl (hb hby d2_88) rfl ((if0 _ _).trans (teq hc88_16).2) k) ?_
              refine own_step (f' := (mkF m 92 #[.val (.int p1), .val (.int v1_3_s0), .val (.int v19_8_s0), .val (.int v49_11_s0), .val (.int v67_14_s0)] [(.int v49_11_s0)])) (fun _ k => XS.iloadN X67_14.here hx rfl (hb hby d2_91) rfl k) ?_
              by_cases hc92_17 : v49_11_s0 = (0 : Int32)
              · refine own_step (f' := (mkF m 95 #[.val (.int p1), .val (.int v1_3_s0), .val (.int v19_8_s0), .val (.int v49_11_s0), .val (.int v67_14_s0)] [])) (fun _ k => XS.ifNo X67_14.here hx rfl (hb hby d2_92) rfl ((if0 _ _).trans (teq hc92_17).2) k) ?_
                refine own_step (f' := (mkF m 97 #[.val (.int p1), .val (.int v1_3_s0), .val (.int v19_8_s0), .val (.int v49_11_s0), .val (.int v67_14_s0)] [(.int v67_14_s0)])) (fun _ k => XS.iload X67_14.here hx rfl (hb hby d2_95) rfl k) ?_
                by_cases hc97_18 : v67_14_s0 = (0 : Int32)
                · refine own_step (f' := (mkF m 100 #[.val (.int p1), .val (.int v1_3_s0), .val (.int v19_8_s0), .val (.int v49_11_s0), .val (.int v67_14_s0)] [])) (fun _ k => XS.ifNo X67_14.here hx rfl (hb hby d2_97) rfl ((if0 _ _).trans (teq hc97_18).2) k) ?_
                  refine own_step (f' := (mkF m 101 #[.val (.int p1), .val (.int v1_3_s0), .val (.int v19_8_s0), .val (.int v49_11_s0), .val (.int v67_14_s0)] [(.int (1 : Int32))])) (fun _ k => XS.iconst X67_14.here hx rfl (hb hby d2_100) k) ?_
                  refine own_step (f' := (mkF m 105 #[.val (.int p1), .val (.int v1_3_s0), .val (.int v19_8_s0), .val (.int v49_11_s0), .val (.int v67_14_s0)] [(.int (1 : Int32))])) (fun _ k => XS.goto X67_14.here hx rfl (pc0 := 101) (pc' := 105) rfl (hb hby d2_101) (by decide) (by decide) k) ?_
                  refine own_out (v := some (.int (1 : Int32))) X67_14 hlk (fun h => by rw [Bd.returns] at h; cases h) (fun fs hr => retN X67_14 hx (t := .boolean) Bd.returns (by simp) (hb hby d2_105) hr) (by decide) (by decide) ?_
                  rw [e67_14]
                  subst hv1_3_0 hv19_8_0 hv49_11_0 hv67_14_0
                  exact ⟨(by rw [own_ex, if_neg hc84_15, if_pos hc88_16, if_pos hc92_17, if_pos hc97_18]), rfl, rfl⟩
                · refine own_step (f' := (mkF m 104 #[.val (.int p1), .val (.int v1_3_s0), .val (.int v19_8_s0), .val (.int v49_11_s0), .val (.int v67_14_s0)] [])) (fun _ k => XS.ifYes X67_14.here hx rfl (pc0 := 97) (pc' := 104) rfl (hb hby d2_97) rfl ((if0 _ _).trans (feq hc97_18).2) (by decide) (by decide) k) ?_
                  refine own_step (f' := (mkF m 105 #[.val (.int p1), .val (.int v1_3_s0), .val (.int v19_8_s0), .val (.int v49_11_s0), .val (.int v67_14_s0)] [(.int (0 : Int32))])) (fun _ k => XS.iconst X67_14.here hx rfl (hb hby d2_104) k) ?_
                  refine own_out (v := some (.int (0 : Int32))) X67_14 hlk (fun h => by rw [Bd.returns] at h; cases h) (fun fs hr => retN X67_14 hx (t := .boolean) Bd.returns (by simp) (hb hby d2_105) hr) (by decide) (by decide) ?_
                  rw [e67_14]
                  subst hv1_3_0 hv19_8_0 hv49_11_0 hv67_14_0
                  exact ⟨(by rw [own_ex, if_neg hc84_15, if_pos hc88_16, if_pos hc92_17, if_neg hc97_18]), rfl, rfl⟩
              · refine own_step (f' := (mkF m 104 #[.val (.int p1), .val (.int v1_3_s0), .val (.int v19_8_s0), .val (.int v49_11_s0), .val (.int v67_14_s0)] [])) (fun _ k => XS.ifYes X67_14.here hx rfl (pc0 := 92) (pc' := 104) rfl (hb hby d2_92) rfl ((if0 _ _).trans (feq hc92_17).2) (by decide) (by decide) k) ?_
                refine own_step (f' := (mkF m 105 #[.val (.int p1), .val (.int v1_3_s0), .val (.int v19_8_s0), .val (.int v49_11_s0), .val (.int v67_14_s0)] [(.int (0 : Int32))])) (fun _ k => XS.iconst X67_14.here hx rfl (hb hby d2_104) k) ?_
                refine own_out (v := some (.int (0 : Int32))) X67_14 hlk (fun h => by rw [Bd.returns] at h; cases h) (fun fs hr => retN X67_14 hx (t := .boolean) Bd.returns (by simp) (hb hby d2_105) hr) (by decide) (by decide) ?_
                rw [e67_14]
                subst hv1_3_0 hv19_8_0 hv49_11_0 hv67_14_0
                exact ⟨(by rw [own_ex, if_neg hc84_15, if_pos hc88_16, if_neg hc92_17]), rfl, rfl⟩
            · refine own_step (f' := (mkF m 104 #[.val (.int p1), .val (.int v1_3_s0), .val (.int v19_8_s0), .val (.int v49_11_s0), .val (.int v67_14_s0)] [])) (fun _ k => XS.ifYes X67_14.here hx rfl (pc0 := 88) (pc' := 104) rfl (hb hby d2_88) rfl ((if0 _ _).trans (feq hc88_16).2) (by decide) (by decide) k) ?_
              refine own_step (f' := (mkF m 105 #[.val (.int p1), .val (.int v1_3_s0), .val (.int v19_8_s0), .val (.int v49_11_s0), .val (.int v67_14_s0)] [(.int (0 : Int32))])) (fun _ k => XS.iconst X67_14.here hx rfl (hb hby d2_104) k) ?_
              refine own_out (v := some (.int (0 : Int32))) X67_14 hlk (fun h => by rw [Bd.returns] at h; cases h) (fun fs hr => retN X67_14 hx (t := .boolean) Bd.returns (by simp) (hb hby d2_105) hr) (by decide) (by decide) ?_
              rw [e67_14]
              subst hv1_3_0 hv19_8_0 hv49_11_0 hv67_14_0
              exact ⟨(by rw [own_ex, if_neg hc84_15, if_neg hc88_16]), rfl, rfl⟩
        by_cases hc67_12 : p1 = (65534 : Int32)
        · refine own_step (f' := (mkF m 76 #[.val (.int p1), .val (.int v1_3_s0), .val (.int v19_8_s0), .val (.int v49_11_s0), .unset] [])) (fun _ k => XS.icmpYes X49_11.here hx rfl (pc0 := 67) (pc' := 76) rfl (hb hby d2_67) rfl (teq hc67_12).1 (by decide) (by decide) k) ?_
          refine own_step (f' := (mkF m 77 #[.val (.int p1), .val (.int v1_3_s0), .val (.int v19_8_s0), .val (.int v49_11_s0), .unset] [(.int (1 : Int32))])) (fun _ k => XS.iconst X49_11.here hx rfl (hb hby d2_76) k) ?_
          refine own_step (f' := (mkF m 81 #[.val (.int p1), .val (.int v1_3_s0), .val (.int v19_8_s0), .val (.int v49_11_s0), .unset] [(.int (1 : Int32))])) (fun _ k => XS.goto X49_11.here hx rfl (pc0 := 77) (pc' := 81) rfl (hb hby d2_77) (by decide) (by decide) k) ?_
          exact J67_14 _ (1 : Int32) X49_11 e49_11 (by rw [if_pos hc67_12])
        · refine own_step (f' := (mkF m 70 #[.val (.int p1), .val (.int v1_3_s0), .val (.int v19_8_s0), .val (.int v49_11_s0), .unset] [])) (fun _ k => XS.icmpNo X49_11.here hx rfl (hb hby d2_67) rfl (feq hc67_12).1 k) ?_
          refine own_step (f' := (mkF m 71 #[.val (.int p1), .val (.int v1_3_s0), .val (.int v19_8_s0), .val (.int v49_11_s0), .unset] [(.int p1)])) (fun _ k => XS.iloadN X49_11.here hx rfl (hb hby d2_70) rfl k) ?_
          refine own_step (f' := (mkF m 73 #[.val (.int p1), .val (.int v1_3_s0), .val (.int v19_8_s0), .val (.int v49_11_s0), .unset] [(.int (65535 : Int32)), (.int p1)])) (fun _ k => X49_11.ldcInt hx hown (mvT hZ (hw _ (List.mem_of_getElem? (i := 7) rfl))) (g := (mkF m 71 #[.val (.int p1), .val (.int v1_3_s0), .val (.int v19_8_s0), .val (.int v49_11_s0), .unset] [(.int p1)])) rfl (hb hby d2_71) _ k) ?_
          by_cases hc73_1013 : p1 = (65535 : Int32)
          · refine own_step (f' := (mkF m 76 #[.val (.int p1), .val (.int v1_3_s0), .val (.int v19_8_s0), .val (.int v49_11_s0), .unset] [])) (fun _ k => XS.icmpNo X49_11.here hx rfl (hb hby d2_73) rfl (teq hc73_1013).2 k) ?_
            refine own_step (f' := (mkF m 77 #[.val (.int p1), .val (.int v1_3_s0), .val (.int v19_8_s0), .val (.int v49_11_s0), .unset] [(.int (1 : Int32))])) (fun _ k => XS.iconst X49_11.here hx rfl (hb hby d2_76) k) ?_
            refine own_step (f' := (mkF m 81 #[.val (.int p1), .val (.int v1_3_s0), .val (.int v19_8_s0), .val (.int v49_11_s0), .unset] [(.int (1 : Int32))])) (fun _ k => XS.goto X49_11.here hx rfl (pc0 := 77) (pc' := 81) rfl (hb hby d2_77) (by decide) (by decide) k) ?_
            exact J67_14 _ (1 : Int32) X49_11 e49_11 (by rw [if_neg hc67_12, if_pos hc73_1013])
          · refine own_step (f' := (mkF m 80 #[.val (.int p1), .val (.int v1_3_s0), .val (.int v19_8_s0), .val (.int v49_11_s0), .unset] [])) (fun _ k => XS.icmpYes X49_11.here hx rfl (pc0 := 73) (pc' := 80) rfl (hb hby d2_73) rfl (feq hc73_1013).2 (by decide) (by decide) k) ?_
            refine own_step (f' := (mkF m 81 #[.val (.int p1), .val (.int v1_3_s0), .val (.int v19_8_s0), .val (.int v49_11_s0), .unset] [(.int (0 : Int32))])) (fun _ k => XS.iconst X49_11.here hx rfl (hb hby d2_80) k) ?_
            exact J67_14 _ (0 : Int32) X49_11 e49_11 (by rw [if_neg hc67_12, if_neg hc73_1013])
      by_cases hc49_9 : p1 < (55296 : Int32)
      · refine own_step (f' := (mkF m 62 #[.val (.int p1), .val (.int v1_3_s0), .val (.int v19_8_s0), .unset, .unset] [])) (fun _ k => XS.icmpYes X19_8.here hx rfl (pc0 := 49) (pc' := 62) rfl (hb hby d2_49) rfl (tlt hc49_9).1 (by decide) (by decide) k) ?_
        refine own_step (f' := (mkF m 63 #[.val (.int p1), .val (.int v1_3_s0), .val (.int v19_8_s0), .unset, .unset] [(.int (0 : Int32))])) (fun _ k => XS.iconst X19_8.here hx rfl (hb hby d2_62) k) ?_
        exact J49_11 _ (0 : Int32) X19_8 e19_8 (by rw [if_pos hc49_9])
      · refine own_step (f' := (mkF m 52 #[.val (.int p1), .val (.int v1_3_s0), .val (.int v19_8_s0), .unset, .unset] [])) (fun _ k => XS.icmpNo X19_8.here hx rfl (hb hby d2_49) rfl (flt hc49_9).1 k) ?_
        refine own_step (f' := (mkF m 53 #[.val (.int p1), .val (.int v1_3_s0), .val (.int v19_8_s0), .unset, .unset] [(.int p1)])) (fun _ k => XS.iloadN X19_8.here hx rfl (hb hby d2_52) rfl k) ?_
        refine own_step (f' := (mkF m 55 #[.val (.int p1), .val (.int v1_3_s0), .val (.int v19_8_s0), .unset, .unset] [(.int (57343 : Int32)), (.int p1)])) (fun _ k => X19_8.ldcInt hx hown (mvT hZ (hw _ (List.mem_of_getElem? (i := 3) rfl))) (g := (mkF m 53 #[.val (.int p1), .val (.int v1_3_s0), .val (.int v19_8_s0), .unset, .unset] [(.int p1)])) rfl (hb hby d2_53) _ k) ?_
        by_cases hc55_1010 : (57343 : Int32) < p1
        · refine own_step (f' := (mkF m 62 #[.val (.int p1), .val (.int v1_3_s0), .val (.int v19_8_s0), .unset, .unset] [])) (fun _ k => XS.icmpYes X19_8.here hx rfl (pc0 := 55) (pc' := 62) rfl (hb hby d2_55) rfl (tlt hc55_1010).2.2.1 (by decide) (by decide) k) ?_
          refine own_step (f' := (mkF m 63 #[.val (.int p1), .val (.int v1_3_s0), .val (.int v19_8_s0), .unset, .unset] [(.int (0 : Int32))])) (fun _ k => XS.iconst X19_8.here hx rfl (hb hby d2_62) k) ?_
          exact J49_11 _ (0 : Int32) X19_8 e19_8 (by rw [if_neg hc49_9, if_pos hc55_1010])
        · refine own_step (f' := (mkF m 58 #[.val (.int p1), .val (.int v1_3_s0), .val (.int v19_8_s0), .unset, .unset] [])) (fun _ k => XS.icmpNo X19_8.here hx rfl (hb hby d2_55) rfl (flt hc55_1010).2.2.1 k) ?_
          refine own_step (f' := (mkF m 59 #[.val (.int p1), .val (.int v1_3_s0), .val (.int v19_8_s0), .unset, .unset] [(.int (1 : Int32))])) (fun _ k => XS.iconst X19_8.here hx rfl (hb hby d2_58) k) ?_
          refine own_step (f' := (mkF m 63 #[.val (.int p1), .val (.int v1_3_s0), .val (.int v19_8_s0), .unset, .unset] [(.int (1 : Int32))])) (fun _ k => XS.goto X19_8.here hx rfl (pc0 := 59) (pc' := 63) rfl (hb hby d2_59) (by decide) (by decide) k) ?_
          exact J49_11 _ (1 : Int32) X19_8 e19_8 (by rw [if_neg hc49_9, if_neg hc55_1010])
    by_cases hc19_4 : p1 < (32 : Int32)
    · refine own_step (f' := (mkF m 22 #[.val (.int p1), .val (.int v1_3_s0), .unset, .unset, .unset] [])) (fun _ k => XS.icmpNo X1_3.here hx rfl (hb hby d2_19) rfl (tlt hc19_4).2.1 k) ?_
      refine own_step (f' := (mkF m 23 #[.val (.int p1), .val (.int v1_3_s0), .unset, .unset, .unset] [(.int p1)])) (fun _ k => XS.iloadN X1_3.here hx rfl (hb hby d2_22) rfl k) ?_
      refine own_step (f' := (mkF m 25 #[.val (.int p1), .val (.int v1_3_s0), .unset, .unset, .unset] [(.int (9 : Int32)), (.int p1)])) (fun _ k => XS.bipush X1_3.here hx rfl (hb hby d2_23) k) ?_
      by_cases hc25_1005 : p1 = (9 : Int32)
      · refine own_step (f' := (mkF m 44 #[.val (.int p1), .val (.int v1_3_s0), .unset, .unset, .unset] [])) (fun _ k => XS.icmpYes X1_3.here hx rfl (pc0 := 25) (pc' := 44) rfl (hb hby d2_25) rfl (teq hc25_1005).1 (by decide) (by decide) k) ?_
        refine own_step (f' := (mkF m 45 #[.val (.int p1), .val (.int v1_3_s0), .unset, .unset, .unset] [(.int (0 : Int32))])) (fun _ k => XS.iconst X1_3.here hx rfl (hb hby d2_44) k) ?_
        exact J19_8 _ (0 : Int32) X1_3 e1_3 (by rw [if_pos hc19_4, if_pos hc25_1005])
      · refine own_step (f' := (mkF m 28 #[.val (.int p1), .val (.int v1_3_s0), .unset, .unset, .unset] [])) (fun _ k => XS.icmpNo X1_3.here hx rfl (hb hby d2_25) rfl (feq hc25_1005).1 k) ?_
        refine own_step (f' := (mkF m 29 #[.val (.int p1), .val (.int v1_3_s0), .unset, .unset, .unset] [(.int p1)])) (fun _ k => XS.iloadN X1_3.here hx rfl (hb hby d2_28) rfl k) ?_
        refine own_step (f' := (mkF m 31 #[.val (.int p1), .val (.int v1_3_s0), .unset, .unset, .unset] [(.int (10 : Int32)), (.int p1)])) (fun _ k => XS.bipush X1_3.here hx rfl (hb hby d2_29) k) ?_
        by_cases hc31_1006 : p1 = (10 : Int32)
        · refine own_step (f' := (mkF m 44 #[.val (.int p1), .val (.int v1_3_s0), .unset, .unset, .unset] [])) (fun _ k => XS.icmpYes X1_3.here hx rfl (pc0 := 31) (pc' := 44) rfl (hb hby d2_31) rfl (teq hc31_1006).1 (by decide) (by decide) k) ?_
          refine own_step (f' := (mkF m 45 #[.val (.int p1), .val (.int v1_3_s0), .unset, .unset, .unset] [(.int (0 : Int32))])) (fun _ k => XS.iconst X1_3.here hx rfl (hb hby d2_44) k) ?_
          exact J19_8 _ (0 : Int32) X1_3 e1_3 (by rw [if_pos hc19_4, if_neg hc25_1005, if_pos hc31_1006])
        · refine own_step (f' := (mkF m 34 #[.val (.int p1), .val (.int v1_3_s0), .unset, .unset, .unset] [])) (fun _ k => XS.icmpNo X1_3.here hx rfl (hb hby d2_31) rfl (feq hc31_1006).1 k) ?_
          refine own_step (f' := (mkF m 35 #[.val (.int p1), .val (.int v1_3_s0), .unset, .unset, .unset] [(.int p1)])) (fun _ k => XS.iloadN X1_3.here hx rfl (hb hby d2_34) rfl k) ?_
          refine own_step (f' := (mkF m 37 #[.val (.int p1), .val (.int v1_3_s0), .unset, .unset, .unset] [(.int (13 : Int32)), (.int p1)])) (fun _ k => XS.bipush X1_3.here hx rfl (hb hby d2_35) k) ?_
          by_cases hc37_1007 : p1 = (13 : Int32)
          · refine own_step (f' := (mkF m 44 #[.val (.int p1), .val (.int v1_3_s0), .unset, .unset, .unset] [])) (fun _ k => XS.icmpYes X1_3.here hx rfl (pc0 := 37) (pc' := 44) rfl (hb hby d2_37) rfl (teq hc37_1007).1 (by decide) (by decide) k) ?_
            refine own_step (f' := (mkF m 45 #[.val (.int p1), .val (.int v1_3_s0), .unset, .unset, .unset] [(.int (0 : Int32))])) (fun _ k => XS.iconst X1_3.here hx rfl (hb hby d2_44) k) ?_
            exact J19_8 _ (0 : Int32) X1_3 e1_3 (by rw [if_pos hc19_4, if_neg hc25_1005, if_neg hc31_1006, if_pos hc37_1007])
          · refine own_step (f' := (mkF m 40 #[.val (.int p1), .val (.int v1_3_s0), .unset, .unset, .unset] [])) (fun _ k => XS.icmpNo X1_3.here hx rfl (hb hby d2_37) rfl (feq hc37_1007).1 k) ?_
            refine own_step (f' := (mkF m 41 #[.val (.int p1), .val (.int v1_3_s0), .unset, .unset, .unset] [(.int (1 : Int32))])) (fun _ k => XS.iconst X1_3.here hx rfl (hb hby d2_40) k) ?_
            refine own_step (f' := (mkF m 45 #[.val (.int p1), .val (.int v1_3_s0), .unset, .unset, .unset] [(.int (1 : Int32))])) (fun _ k => XS.goto X1_3.here hx rfl (pc0 := 41) (pc' := 45) rfl (hb hby d2_41) (by decide) (by decide) k) ?_
            exact J19_8 _ (1 : Int32) X1_3 e1_3 (by rw [if_pos hc19_4, if_neg hc25_1005, if_neg hc31_1006, if_neg hc37_1007])
    · refine own_step (f' := (mkF m 44 #[.val (.int p1), .val (.int v1_3_s0), .unset, .unset, .unset] [])) (fun _ k => XS.icmpYes X1_3.here hx rfl (pc0 := 19) (pc' := 44) rfl (hb hby d2_19) rfl (flt hc19_4).2.1 (by decide) (by decide) k) ?_
      refine own_step (f' := (mkF m 45 #[.val (.int p1), .val (.int v1_3_s0), .unset, .unset, .unset] [(.int (0 : Int32))])) (fun _ k => XS.iconst X1_3.here hx rfl (hb hby d2_44) k) ?_
      exact J19_8 _ (0 : Int32) X1_3 e1_3 (by rw [if_neg hc19_4])
  by_cases hc1_1 : p1 < (0 : Int32)
  · refine own_step (f' := (mkF m 14 #[.val (.int p1), .unset, .unset, .unset, .unset] [])) (fun _ k => XS.ifYes X0.here hx rfl (pc0 := 1) (pc' := 14) rfl (hb hby d2_1) rfl ((if0 _ _).trans (tlt hc1_1).1) (by decide) (by decide) k) ?_
    refine own_step (f' := (mkF m 15 #[.val (.int p1), .unset, .unset, .unset, .unset] [(.int (0 : Int32))])) (fun _ k => XS.iconst X0.here hx rfl (hb hby d2_14) k) ?_
    exact J1_3 _ (0 : Int32) X0 e0 (by rw [if_pos hc1_1])
  · refine own_step (f' := (mkF m 4 #[.val (.int p1), .unset, .unset, .unset, .unset] [])) (fun _ k => XS.ifNo X0.here hx rfl (hb hby d2_1) rfl ((if0 _ _).trans (flt hc1_1).1) k) ?_
    refine own_step (f' := (mkF m 5 #[.val (.int p1), .unset, .unset, .unset, .unset] [(.int p1)])) (fun _ k => XS.iloadN X0.here hx rfl (hb hby d2_4) rfl k) ?_
    refine own_step (f' := (mkF m 7 #[.val (.int p1), .unset, .unset, .unset, .unset] [(.int (1114111 : Int32)), (.int p1)])) (fun _ k => X0.ldcInt hx hown (mvT hZ (hw _ (List.mem_of_getElem? (i := 9) rfl))) (g := (mkF m 5 #[.val (.int p1), .unset, .unset, .unset, .unset] [(.int p1)])) rfl (hb hby d2_5) _ k) ?_
    by_cases hc7_1002 : (1114111 : Int32) < p1
    · refine own_step (f' := (mkF m 14 #[.val (.int p1), .unset, .unset, .unset, .unset] [])) (fun _ k => XS.icmpYes X0.here hx rfl (pc0 := 7) (pc' := 14) rfl (hb hby d2_7) rfl (tlt hc7_1002).2.2.1 (by decide) (by decide) k) ?_
      refine own_step (f' := (mkF m 15 #[.val (.int p1), .unset, .unset, .unset, .unset] [(.int (0 : Int32))])) (fun _ k => XS.iconst X0.here hx rfl (hb hby d2_14) k) ?_
      exact J1_3 _ (0 : Int32) X0 e0 (by rw [if_neg hc1_1, if_pos hc7_1002])
    · refine own_step (f' := (mkF m 10 #[.val (.int p1), .unset, .unset, .unset, .unset] [])) (fun _ k => XS.icmpNo X0.here hx rfl (hb hby d2_7) rfl (flt hc7_1002).2.2.1 k) ?_
      refine own_step (f' := (mkF m 11 #[.val (.int p1), .unset, .unset, .unset, .unset] [(.int (1 : Int32))])) (fun _ k => XS.iconst X0.here hx rfl (hb hby d2_10) k) ?_
      refine own_step (f' := (mkF m 15 #[.val (.int p1), .unset, .unset, .unset, .unset] [(.int (1 : Int32))])) (fun _ k => XS.goto X0.here hx rfl (pc0 := 11) (pc' := 15) rfl (hb hby d2_11) (by decide) (by decide) k) ?_
      exact J1_3 _ (1 : Int32) X0 e0 (by rw [if_neg hc1_1, if_neg hc7_1002])
theorem own_lit (x : Int32) (n : Int) (k : Int32) (hk : k.toInt = n) : (x < k ↔ x.toInt < n) ∧ (k < x ↔ n < x.toInt) ∧ (x = k ↔ x.toInt = n) := by
  rw [Int32.lt_iff_toInt_lt, Int32.lt_iff_toInt_lt, ← Int32.toInt_inj, hk]
  exact ⟨Iff.rfl, Iff.rfl, Iff.rfl⟩
theorem own_chs (x : Int32) : own_ch_0 x = if (x.toInt = 9 ∨ x.toInt = 10 ∨ x.toInt = 13 ∨ (32 ≤ x.toInt ∧ x.toInt ≤ 55295) ∨ (57344 ≤ x.toInt ∧ x.toInt ≤ 65533) ∨ (65536 ≤ x.toInt ∧ x.toInt ≤ 1114111)) then 1 else 0 := by
  obtain ⟨a9, b9, c9⟩ := own_lit x 9 (9 : Int32) (by decide)
  obtain ⟨a10, b10, c10⟩ := own_lit x 10 (10 : Int32) (by decide)
  obtain ⟨a13, b13, c13⟩ := own_lit x 13 (13 : Int32) (by decide)
  obtain ⟨a32, b32, c32⟩ := own_lit x 32 (32 : Int32) (by decide)
  obtain ⟨a55295, b55295, c55295⟩ := own_lit x 55295 (55295 : Int32) (by decide)
  obtain ⟨a57344, b57344, c57344⟩ := own_lit x 57344 (57344 : Int32) (by decide)
  obtain ⟨a65533, b65533, c65533⟩ := own_lit x 65533 (65533 : Int32) (by decide)
  obtain ⟨a65536, b65536, c65536⟩ := own_lit x 65536 (65536 : Int32) (by decide)
  obtain ⟨a1114111, b1114111, c1114111⟩ := own_lit x 1114111 (1114111 : Int32) (by decide)
  unfold own_ch_0 own_ch_30 own_ch_42 own_ch_54 own_ch_58
  simp only [a9, b9, c9, a10, b10, c10, a13, b13, c13, a32, b32, c32, a55295, b55295, c55295, a57344, b57344, c57344, a65533, b65533, c65533, a65536, b65536, c65536, a1114111, b1114111, c1114111]
  (repeat' split) <;> first | rfl | (exfalso; omega)
theorem own_e1s (x : Int32) : own_e1 x = if (0 ≤ x.toInt ∧ x.toInt ≤ 1114111) then 1 else 0 := by
  obtain ⟨a0, b0, c0⟩ := own_lit x 0 (0 : Int32) (by decide)
  obtain ⟨a1114111, b1114111, c1114111⟩ := own_lit x 1114111 (1114111 : Int32) (by decide)
  unfold own_e1
  simp only [a0, b0, c0, a1114111, b1114111, c1114111]
  (repeat' split) <;> first | rfl | (exfalso; omega)
theorem own_e2s (x : Int32) : own_e2 x = if (x.toInt < 32 ∧ x.toInt ≠ 9 ∧ x.toInt ≠ 10 ∧ x.toInt ≠ 13) then 1 else 0 := by
  obtain ⟨a32, b32, c32⟩ := own_lit x 32 (32 : Int32) (by decide)
  obtain ⟨a9, b9, c9⟩ := own_lit x 9 (9 : Int32) (by decide)
  obtain ⟨a10, b10, c10⟩ := own_lit x 10 (10 : Int32) (by decide)
  obtain ⟨a13, b13, c13⟩ := own_lit x 13 (13 : Int32) (by decide)
  unfold own_e2
  simp only [a32, b32, c32, a9, b9, c9, a10, b10, c10, a13, b13, c13]
  (repeat' split) <;> first | rfl | (exfalso; omega)
theorem own_e3s (x : Int32) : own_e3 x = if (55296 ≤ x.toInt ∧ x.toInt ≤ 57343) then 1 else 0 := by
  obtain ⟨a55296, b55296, c55296⟩ := own_lit x 55296 (55296 : Int32) (by decide)
  obtain ⟨a57343, b57343, c57343⟩ := own_lit x 57343 (57343 : Int32) (by decide)
  unfold own_e3
  simp only [a55296, b55296, c55296, a57343, b57343, c57343]
  (repeat' split) <;> first | rfl | (exfalso; omega)
theorem own_e4s (x : Int32) : own_e4 x = if (x.toInt = 65534 ∨ x.toInt = 65535) then 1 else 0 := by
  obtain ⟨a65534, b65534, c65534⟩ := own_lit x 65534 (65534 : Int32) (by decide)
  obtain ⟨a65535, b65535, c65535⟩ := own_lit x 65535 (65535 : Int32) (by decide)
  unfold own_e4
  simp only [a65534, b65534, c65534, a65535, b65535, c65535]
  (repeat' split) <;> first | rfl | (exfalso; omega)
theorem own_exs (x : Int32) : own_ex x = if ((0 ≤ x.toInt ∧ x.toInt ≤ 1114111) ∧ ¬ (x.toInt < 32 ∧ x.toInt ≠ 9 ∧ x.toInt ≠ 10 ∧ x.toInt ≠ 13) ∧ ¬ (55296 ≤ x.toInt ∧ x.toInt ≤ 57343) ∧ ¬ (x.toInt = 65534 ∨ x.toInt = 65535)) then 1 else 0 := by
  unfold own_ex
  rw [own_e1s, own_e2s, own_e3s, own_e4s]
  by_cases h1 : (0 ≤ x.toInt ∧ x.toInt ≤ 1114111)
  · rw [if_pos h1, if_neg (by decide)]
    by_cases h2 : (x.toInt < 32 ∧ x.toInt ≠ 9 ∧ x.toInt ≠ 10 ∧ x.toInt ≠ 13)
    · rw [if_pos h2, if_neg (by decide), if_neg (fun q => q.2.1 h2)]
    · rw [if_neg h2, if_pos rfl]
      by_cases h3 : (55296 ≤ x.toInt ∧ x.toInt ≤ 57343)
      · rw [if_pos h3, if_neg (by decide), if_neg (fun q => q.2.2.1 h3)]
      · rw [if_neg h3, if_pos rfl]
        by_cases h4 : (x.toInt = 65534 ∨ x.toInt = 65535)
        · rw [if_pos h4, if_neg (by decide), if_neg (fun q => q.2.2.2 h4)]
        · rw [if_neg h4, if_pos rfl, if_pos ⟨h1, h2, h3, h4⟩]
  · rw [if_neg h1, if_pos rfl, if_neg (fun q => h1 q.1)]
theorem own_same (x : Int32) : own_ch_0 x = own_ex x := by
  rw [own_chs, own_exs]
  by_cases h : (x.toInt = 9 ∨ x.toInt = 10 ∨ x.toInt = 13 ∨ (32 ≤ x.toInt ∧ x.toInt ≤ 55295) ∨ (57344 ≤ x.toInt ∧ x.toInt ≤ 65533) ∨ (65536 ≤ x.toInt ∧ x.toInt ≤ 1114111))
  · rw [if_pos h, if_pos (by omega)]
  · rw [if_neg h, if_neg (by omega)]
theorem own_fit {v : Value} (h : fits .int v = true) : ∃ y, v = .int y := by
  cases v <;> first | exact ⟨_, rfl⟩ | (simp [fits] at h)
theorem own_idx (k : Int32) : ¬ ((k.toUInt32 >>> ((1 : Int32) &&& 31).toUInt32).toInt32) % (18 : Int32) < 0 ∧ ((k.toUInt32 >>> ((1 : Int32) &&& 31).toUInt32).toInt32) % (18 : Int32) < (18 : Int32) := by
  have h1 := c_iushr k 1 1 (by decide) (by decide)
  have h2 := (c_irem ((k.toUInt32 >>> ((1 : Int32) &&& 31).toUInt32).toInt32) 18 18 (by decide)).1
  simp only [Int32.lt_iff_toInt_lt]
  have e0 : (0 : Int32).toInt = 0 := by decide
  have e6 : (18 : Int32).toInt = 18 := by decide
  omega
theorem pd_0 : parseMethodDescriptor "(I)Z" = some ⟨[.int], some .boolean⟩ := by decide +kernel
theorem ef_0 (m : MethodId) (x0 : Int32) (x1 : Int32) (x2 : Int32) : entryFrame m #[(.int x0), (.int x1), (.int x2)] maxLocals = mkF m 0 #[.val (.int x0), .val (.int x1), .val (.int x2), .unset, .unset] [] := by first | (simp [entryFrame, mkF, argsToLocals, Value.category, maxLocals]; done) | rfl
def Q0 (Z : State) (i1 : Int32) (i2 : Int32) (i3 : Int32) (h0 : Heap) (n0 : Nat) (v : Option Value) (h : Heap) (L : List Loc) : Prop := v = some (.int 1) ∧ Fr n0 L
set_option maxRecDepth 65536 in
set_option maxHeartbeats 40000000 in
theorem rm0 (l : Launch) (Z : State) (a0 : Array Value) (hw : ∀ d ∈ tables_1, d.before a0 Z = true) (ws : List Jvm.Cond) (i1 : Int32) (i2 : Int32) (i3 : Int32) (h0 : Heap) (n0 : Nat) (Z0 : n0 ≤ h0.size)  :
    MetFree l x (head1 (Jvm.Cond.code x code maxLocals ret :: ws) room_1) (fun a U => a = #[(.int i1), (.int i2), (.int i3)] ∧ Z.Warmed39 U.vm ∧ U.heap = h0) (fun _ _ _ _ _ => True) (fun _ U o U' => ∃ v L, o = .returned v ∧ Q0 Z i1 i2 i3 h0 n0 v U'.heap L ∧ FrameEnd U o U' L room_1.cells room_1.slots) := by
  refine MetFree.of_bodySF (plainFor_of_name pn_1) hisR ?_
  intro p e s m args below meth c s₁ Bd hml0 hP hK
  obtain ⟨rfl, hZ, hh⟩ := hP
  have hx := Bd.exec
  have hby := Bd.bytes
  have hlk : meth.locks = false := BodyLoose.notSynchronized Bd
  have hml : c.maxLocals = 5 := hml0
  have hown : s.vm.findClass "com/example/valbonne/valbonne/schema/XmlCharsIsCharPinLaw" = some m.cls := findClass_of_methodNamed Bd.named
  have hnm := (name_of_methodNamed Bd.named Bd.method).1
  have X0 : Stand p l e room_1 s m #[(.int i1), (.int i2), (.int i3)] below meth c s₁ [] 0 0 := Stand.of_body Bd
  have e0 : s₁.heap = h0 := by rw [← hh, Bd.state]; rfl
  have N0 := Fr.nil n0
  show own_Goes p e below s (Q0 Z i1 i2 i3 h0 n0) room_1.cells room_1.slots s₁ (entryFrame m #[(.int i1), (.int i2), (.int i3)] maxLocals)
  rw [ef_0 m i1 i2 i3]
  refine own_step (f' := (mkF m 2 #[.val (.int i1), .val (.int i2), .val (.int i3), .unset, .unset] [(.int (18 : Int32))])) (fun _ k => XS.bipush X0.here hx rfl (hb hby at_0) k) ?_
  obtain ⟨T1, h1, k1, X1, e1, E1, A1, st1⟩ := newP X0 hx hZ (hw _ (List.mem_of_getElem? (i := 0) rfl)) e0 (g := (mkF m 2 #[.val (.int i1), .val (.int i2), .val (.int i3), .unset, .unset] [(.int (18 : Int32))])) rfl (hb hby at_2) rfl (by decide) (cap := 18) (by decide) (by decide) (by decide) (by decide)
  obtain ⟨b1, g1⟩ : ∃ z, z = h0.size := ⟨_, rfl⟩
  rw [← g1] at A1 st1
  have g_b1 : n0 ≤ b1 := Nat.le_trans Z0 (Nat.le_of_eq g1.symm)
  have V_b1 : Arv Z h1 b1 k1 .int (18 : Int32) [(.int (0 : Int32)), (.int (0 : Int32)), (.int (0 : Int32)), (.int (0 : Int32)), (.int (0 : Int32)), (.int (0 : Int32)), (.int (0 : Int32)), (.int (0 : Int32)), (.int (0 : Int32)), (.int (0 : Int32)), (.int (0 : Int32)), (.int (0 : Int32)), (.int (0 : Int32)), (.int (0 : Int32)), (.int (0 : Int32)), (.int (0 : Int32)), (.int (0 : Int32)), (.int (0 : Int32))] (.int (0 : Int32)) := (Arv.new A1 (by decide)).pad (pad_rep [] (.int (0 : Int32)) 18)
  refine own_step (f' := (mkF m 4 #[.val (.int i1), .val (.int i2), .val (.int i3), .unset, .unset] [(.ref b1)])) st1 ?_
  refine own_step (f' := (mkF m 5 #[.val (.int i1), .val (.int i2), .val (.int i3), .unset, .unset] [(.ref b1), (.ref b1)])) (fun _ k => XS.dup X1.here hx rfl (hb hby at_4) rfl rfl k) ?_
  refine own_step (f' := (mkF m 6 #[.val (.int i1), .val (.int i2), .val (.int i3), .unset, .unset] [(.int (0 : Int32)), (.ref b1), (.ref b1)])) (fun _ k => XS.iconst X1.here hx rfl (hb hby at_5) k) ?_
  refine own_step (f' := (mkF m 7 #[.val (.int i1), .val (.int i2), .val (.int i3), .unset, .unset] [(.int (0 : Int32)), (.int (0 : Int32)), (.ref b1), (.ref b1)])) (fun _ k => XS.iconst X1.here hx rfl (hb hby at_6) k) ?_
  obtain ⟨cl2, Ar2, qa2, Sa2, Na2, Ha2, Ga2⟩ := V_b1
  have hin3 : ¬ ((0 : Int32) < 0 ∨ cl2.slots.size ≤ ((0 : Int32)).toNatClampNeg) := inb_of Sa2 ⟨by decide, by decide⟩
  obtain ⟨T3, h3, X3, e3, W3, st3⟩ := stI X1 hx hZ e1 Ar2 (j := (0 : Int32)) hin3 (g := (mkF m 7 #[.val (.int i1), .val (.int i2), .val (.int i3), .unset, .unset] [(.int (0 : Int32)), (.int (0 : Int32)), (.ref b1), (.ref b1)])) rfl rfl (hb hby at_7)
  have V3 : Arv Z h3 b1 k1 .int (18 : Int32) [(.int (0 : Int32)), (.int (0 : Int32)), (.int (0 : Int32)), (.int (0 : Int32)), (.int (0 : Int32)), (.int (0 : Int32)), (.int (0 : Int32)), (.int (0 : Int32)), (.int (0 : Int32)), (.int (0 : Int32)), (.int (0 : Int32)), (.int (0 : Int32)), (.int (0 : Int32)), (.int (0 : Int32)), (.int (0 : Int32)), (.int (0 : Int32)), (.int (0 : Int32)), (.int (0 : Int32))] (.int (0 : Int32)) := Arv.set Ar2 qa2 Sa2 Na2 Ha2 Ga2 rfl W3 0 rfl (Nat.le_of_ble_eq_true rfl)
  obtain ⟨Lo3, X3, N3⟩ : ∃ K, Stand p l e room_1 s m #[(.int i1), (.int i2), (.int i3)] below meth c T3 K 1 18 ∧ Fr n0 K := ⟨_, X3, (Fr.snoc X3 N0 g_b1)⟩
  refine own_step (f' := (mkF m 8 #[.val (.int i1), .val (.int i2), .val (.int i3), .unset, .unset] [(.ref b1)])) st3 ?_
  refine own_step (f' := (mkF m 9 #[.val (.int i1), .val (.int i2), .val (.int i3), .unset, .unset] [(.ref b1), (.ref b1)])) (fun _ k => XS.dup X3.here hx rfl (hb hby at_8) rfl rfl k) ?_
  refine own_step (f' := (mkF m 10 #[.val (.int i1), .val (.int i2), .val (.int i3), .unset, .unset] [(.int (1 : Int32)), (.ref b1), (.ref b1)])) (fun _ k => XS.iconst X3.here hx rfl (hb hby at_9) k) ?_
  refine own_step (f' := (mkF m 12 #[.val (.int i1), .val (.int i2), .val (.int i3), .unset, .unset] [(.int (9 : Int32)), (.int (1 : Int32)), (.ref b1), (.ref b1)])) (fun _ k => XS.bipush X3.here hx rfl (hb hby at_10) k) ?_
  obtain ⟨cl4, Ar4, qa4, Sa4, Na4, Ha4, Ga4⟩ := V3
  have hin5 : ¬ ((1 : Int32) < 0 ∨ cl4.slots.size ≤ ((1 : Int32)).toNatClampNeg) := inb_of Sa4 ⟨by decide, by decide⟩
  obtain ⟨T5, h5, X5, e5, W5, st5⟩ := stI X3 hx hZ e3 Ar4 (j := (1 : Int32)) hin5 (g := (mkF m 12 #[.val (.int i1), .val (.int i2), .val (.int i3), .unset, .unset] [(.int (9 : Int32)), (.int (1 : Int32)), (.ref b1), (.ref b1)])) rfl rfl (hb hby at_12)
  have V5 : Arv Z h5 b1 k1 .int (18 : Int32) [(.int (0 : Int32)), (.int (9 : Int32)), (.int (0 : Int32)), (.int (0 : Int32)), (.int (0 : Int32)), (.int (0 : Int32)), (.int (0 : Int32)), (.int (0 : Int32)), (.int (0 : Int32)), (.int (0 : Int32)), (.int (0 : Int32)), (.int (0 : Int32)), (.int (0 : Int32)), (.int (0 : Int32)), (.int (0 : Int32)), (.int (0 : Int32)), (.int (0 : Int32)), (.int (0 : Int32))] (.int (0 : Int32)) := Arv.set Ar4 qa4 Sa4 Na4 Ha4 Ga4 rfl W5 1 rfl (Nat.le_of_ble_eq_true rfl)
  obtain ⟨Lo5, X5, N5⟩ : ∃ K, Stand p l e room_1 s m #[(.int i1), (.int i2), (.int i3)] below meth c T5 K 1 18 ∧ Fr n0 K := ⟨_, X5, (Fr.snoc X5 N3 g_b1)⟩
  refine own_step (f' := (mkF m 13 #[.val (.int i1), .val (.int i2), .val (.int i3), .unset, .unset] [(.ref b1)])) st5 ?_
  refine own_step (f' := (mkF m 14 #[.val (.int i1), .val (.int i2), .val (.int i3), .unset, .unset] [(.ref b1), (.ref b1)])) (fun _ k => XS.dup X5.here hx rfl (hb hby at_13) rfl rfl k) ?_
  refine own_step (f' := (mkF m 15 #[.val (.int i1), .val (.int i2), .val (.int i3), .unset, .unset] [(.int (2 : Int32)), (.ref b1), (.ref b1)])) (fun _ k => XS.iconst X5.here hx rfl (hb hby at_14) k) ?_
  refine own_step (f' := (mkF m 17 #[.val (.int i1), .val (.int i2), .val (.int i3), .unset, .unset] [(.int (10 : Int32)), (.int (2 : Int32)), (.ref b1), (.ref b1)])) (fun _ k => XS.bipush X5.here hx rfl (hb hby at_15) k) ?_
  obtain ⟨cl6, Ar6, qa6, Sa6, Na6, Ha6, Ga6⟩ := V5
  have hin7 : ¬ ((2 : Int32) < 0 ∨ cl6.slots.size ≤ ((2 : Int32)).toNatClampNeg) := inb_of Sa6 ⟨by decide, by decide⟩
  obtain ⟨T7, h7, X7, e7, W7, st7⟩ := stI X5 hx hZ e5 Ar6 (j := (2 : Int32)) hin7 (g := (mkF m 17 #[.val (.int i1), .val (.int i2), .val (.int i3), .unset, .unset] [(.int (10 : Int32)), (.int (2 : Int32)), (.ref b1), (.ref b1)])) rfl rfl (hb hby at_17)
  have V7 : Arv Z h7 b1 k1 .int (18 : Int32) [(.int (0 : Int32)), (.int (9 : Int32)), (.int (10 : Int32)), (.int (0 : Int32)), (.int (0 : Int32)), (.int (0 : Int32)), (.int (0 : Int32)), (.int (0 : Int32)), (.int (0 : Int32)), (.int (0 : Int32)), (.int (0 : Int32)), (.int (0 : Int32)), (.int (0 : Int32)), (.int (0 : Int32)), (.int (0 : Int32)), (.int (0 : Int32)), (.int (0 : Int32)), (.int (0 : Int32))] (.int (0 : Int32)) := Arv.set Ar6 qa6 Sa6 Na6 Ha6 Ga6 rfl W7 2 rfl (Nat.le_of_ble_eq_true rfl)
  obtain ⟨Lo7, X7, N7⟩ : ∃ K, Stand p l e room_1 s m #[(.int i1), (.int i2), (.int i3)] below meth c T7 K 1 18 ∧ Fr n0 K := ⟨_, X7, (Fr.snoc X7 N5 g_b1)⟩
  refine own_step (f' := (mkF m 18 #[.val (.int i1), .val (.int i2), .val (.int i3), .unset, .unset] [(.ref b1)])) st7 ?_
  refine own_step (f' := (mkF m 19 #[.val (.int i1), .val (.int i2), .val (.int i3), .unset, .unset] [(.ref b1), (.ref b1)])) (fun _ k => XS.dup X7.here hx rfl (hb hby at_18) rfl rfl k) ?_
  refine own_step (f' := (mkF m 20 #[.val (.int i1), .val (.int i2), .val (.int i3), .unset, .unset] [(.int (3 : Int32)), (.ref b1), (.ref b1)])) (fun _ k => XS.iconst X7.here hx rfl (hb hby at_19) k) ?_
  refine own_step (f' := (mkF m 22 #[.val (.int i1), .val (.int i2), .val (.int i3), .unset, .unset] [(.int (13 : Int32)), (.int (3 : Int32)), (.ref b1), (.ref b1)])) (fun _ k => XS.bipush X7.here hx rfl (hb hby at_20) k) ?_
  obtain ⟨cl8, Ar8, qa8, Sa8, Na8, Ha8, Ga8⟩ := V7
  have hin9 : ¬ ((3 : Int32) < 0 ∨ cl8.slots.size ≤ ((3 : Int32)).toNatClampNeg) := inb_of Sa8 ⟨by decide, by decide⟩
  obtain ⟨T9, h9, X9, e9, W9, st9⟩ := stI X7 hx hZ e7 Ar8 (j := (3 : Int32)) hin9 (g := (mkF m 22 #[.val (.int i1), .val (.int i2), .val (.int i3), .unset, .unset] [(.int (13 : Int32)), (.int (3 : Int32)), (.ref b1), (.ref b1)])) rfl rfl (hb hby at_22)
  have V9 : Arv Z h9 b1 k1 .int (18 : Int32) [(.int (0 : Int32)), (.int (9 : Int32)), (.int (10 : Int32)), (.int (13 : Int32)), (.int (0 : Int32)), (.int (0 : Int32)), (.int (0 : Int32)), (.int (0 : Int32)), (.int (0 : Int32)), (.int (0 : Int32)), (.int (0 : Int32)), (.int (0 : Int32)), (.int (0 : Int32)), (.int (0 : Int32)), (.int (0 : Int32)), (.int (0 : Int32)), (.int (0 : Int32)), (.int (0 : Int32))] (.int (0 : Int32)) := Arv.set Ar8 qa8 Sa8 Na8 Ha8 Ga8 rfl W9 3 rfl (Nat.le_of_ble_eq_true rfl)
  obtain ⟨Lo9, X9, N9⟩ : ∃ K, Stand p l e room_1 s m #[(.int i1), (.int i2), (.int i3)] below meth c T9 K 1 18 ∧ Fr n0 K := ⟨_, X9, (Fr.snoc X9 N7 g_b1)⟩
  refine own_step (f' := (mkF m 23 #[.val (.int i1), .val (.int i2), .val (.int i3), .unset, .unset] [(.ref b1)])) st9 ?_
  refine own_step (f' := (mkF m 24 #[.val (.int i1), .val (.int i2), .val (.int i3), .unset, .unset] [(.ref b1), (.ref b1)])) (fun _ k => XS.dup X9.here hx rfl (hb hby at_23) rfl rfl k) ?_
  refine own_step (f' := (mkF m 25 #[.val (.int i1), .val (.int i2), .val (.int i3), .unset, .unset] [(.int (4 : Int32)), (.ref b1), (.ref b1)])) (fun _ k => XS.iconst X9.here hx rfl (hb hby at_24) k) ?_
  refine own_step (f' := (mkF m 27 #[.val (.int i1), .val (.int i2), .val (.int i3), .unset, .unset] [(.int (32 : Int32)), (.int (4 : Int32)), (.ref b1), (.ref b1)])) (fun _ k => XS.bipush X9.here hx rfl (hb hby at_25) k) ?_
  obtain ⟨cl10, Ar10, qa10, Sa10, Na10, Ha10, Ga10⟩ := V9
  have hin11 : ¬ ((4 : Int32) < 0 ∨ cl10.slots.size ≤ ((4 : Int32)).toNatClampNeg) := inb_of Sa10 ⟨by decide, by decide⟩
  obtain ⟨T11, h11, X11, e11, W11, st11⟩ := stI X9 hx hZ e9 Ar10 (j := (4 : Int32)) hin11 (g := (mkF m 27 #[.val (.int i1), .val (.int i2), .val (.int i3), .unset, .unset] [(.int (32 : Int32)), (.int (4 : Int32)), (.ref b1), (.ref b1)])) rfl rfl (hb hby at_27)
  have V11 : Arv Z h11 b1 k1 .int (18 : Int32) [(.int (0 : Int32)), (.int (9 : Int32)), (.int (10 : Int32)), (.int (13 : Int32)), (.int (32 : Int32)), (.int (0 : Int32)), (.int (0 : Int32)), (.int (0 : Int32)), (.int (0 : Int32)), (.int (0 : Int32)), (.int (0 : Int32)), (.int (0 : Int32)), (.int (0 : Int32)), (.int (0 : Int32)), (.int (0 : Int32)), (.int (0 : Int32)), (.int (0 : Int32)), (.int (0 : Int32))] (.int (0 : Int32)) := Arv.set Ar10 qa10 Sa10 Na10 Ha10 Ga10 rfl W11 4 rfl (Nat.le_of_ble_eq_true rfl)
  obtain ⟨Lo11, X11, N11⟩ : ∃ K, Stand p l e room_1 s m #[(.int i1), (.int i2), (.int i3)] below meth c T11 K 1 18 ∧ Fr n0 K := ⟨_, X11, (Fr.snoc X11 N9 g_b1)⟩
  refine own_step (f' := (mkF m 28 #[.val (.int i1), .val (.int i2), .val (.int i3), .unset, .unset] [(.ref b1)])) st11 ?_
  refine own_step (f' := (mkF m 29 #[.val (.int i1), .val (.int i2), .val (.int i3), .unset, .unset] [(.ref b1), (.ref b1)])) (fun _ k => XS.dup X11.here hx rfl (hb hby at_28) rfl rfl k) ?_
  refine own_step (f' := (mkF m 30 #[.val (.int i1), .val (.int i2), .val (.int i3), .unset, .unset] [(.int (5 : Int32)), (.ref b1), (.ref b1)])) (fun _ k => XS.iconst X11.here hx rfl (hb hby at_29) k) ?_
  refine own_step (f' := (mkF m 32 #[.val (.int i1), .val (.int i2), .val (.int i3), .unset, .unset] [(.int (55295 : Int32)), (.int (5 : Int32)), (.ref b1), (.ref b1)])) (fun _ k => X11.ldcInt hx hown (mvT hZ (hw _ (List.mem_of_getElem? (i := 1) rfl))) (g := (mkF m 30 #[.val (.int i1), .val (.int i2), .val (.int i3), .unset, .unset] [(.int (5 : Int32)), (.ref b1), (.ref b1)])) rfl (hb hby at_30) _ k) ?_
  obtain ⟨cl12, Ar12, qa12, Sa12, Na12, Ha12, Ga12⟩ := V11
  have hin13 : ¬ ((5 : Int32) < 0 ∨ cl12.slots.size ≤ ((5 : Int32)).toNatClampNeg) := inb_of Sa12 ⟨by decide, by decide⟩
  obtain ⟨T13, h13, X13, e13, W13, st13⟩ := stI X11 hx hZ e11 Ar12 (j := (5 : Int32)) hin13 (g := (mkF m 32 #[.val (.int i1), .val (.int i2), .val (.int i3), .unset, .unset] [(.int (55295 : Int32)), (.int (5 : Int32)), (.ref b1), (.ref b1)])) rfl rfl (hb hby at_32)
  have V13 : Arv Z h13 b1 k1 .int (18 : Int32) [(.int (0 : Int32)), (.int (9 : Int32)), (.int (10 : Int32)), (.int (13 : Int32)), (.int (32 : Int32)), (.int (55295 : Int32)), (.int (0 : Int32)), (.int (0 : Int32)), (.int (0 : Int32)), (.int (0 : Int32)), (.int (0 : Int32)), (.int (0 : Int32)), (.int (0 : Int32)), (.int (0 : Int32)), (.int (0 : Int32)), (.int (0 : Int32)), (.int (0 : Int32)), (.int (0 : Int32))] (.int (0 : Int32)) := Arv.set Ar12 qa12 Sa12 Na12 Ha12 Ga12 rfl W13 5 rfl (Nat.le_of_ble_eq_true rfl)
  obtain ⟨Lo13, X13, N13⟩ : ∃ K, Stand p l e room_1 s m #[(.int i1), (.int i2), (.int i3)] below meth c T13 K 1 18 ∧ Fr n0 K := ⟨_, X13, (Fr.snoc X13 N11 g_b1)⟩
  refine own_step (f' := (mkF m 33 #[.val (.int i1), .val (.int i2), .val (.int i3), .unset, .unset] [(.ref b1)])) st13 ?_
  refine own_step (f' := (mkF m 34 #[.val (.int i1), .val (.int i2), .val (.int i3), .unset, .unset] [(.ref b1), (.ref b1)])) (fun _ k => XS.dup X13.here hx rfl (hb hby at_33) rfl rfl k) ?_
  refine own_step (f' := (mkF m 36 #[.val (.int i1), .val (.int i2), .val (.int i3), .unset, .unset] [(.int (6 : Int32)), (.ref b1), (.ref b1)])) (fun _ k => XS.bipush X13.here hx rfl (hb hby at_34) k) ?_
  refine own_step (f' := (mkF m 38 #[.val (.int i1), .val (.int i2), .val (.int i3), .unset, .unset] [(.int (55296 : Int32)), (.int (6 : Int32)), (.ref b1), (.ref b1)])) (fun _ k => X13.ldcInt hx hown (mvT hZ (hw _ (List.mem_of_getElem? (i := 2) rfl))) (g := (mkF m 36 #[.val (.int i1), .val (.int i2), .val (.int i3), .unset, .unset] [(.int (6 : Int32)), (.ref b1), (.ref b1)])) rfl (hb hby at_36) _ k) ?_
  obtain ⟨cl14, Ar14, qa14, Sa14, Na14, Ha14, Ga14⟩ := V13
  have hin15 : ¬ ((6 : Int32) < 0 ∨ cl14.slots.size ≤ ((6 : Int32)).toNatClampNeg) := inb_of Sa14 ⟨by decide, by decide⟩
  obtain ⟨T15, h15, X15, e15, W15, st15⟩ := stI X13 hx hZ e13 Ar14 (j := (6 : Int32)) hin15 (g := (mkF m 38 #[.val (.int i1), .val (.int i2), .val (.int i3), .unset, .unset] [(.int (55296 : Int32)), (.int (6 : Int32)), (.ref b1), (.ref b1)])) rfl rfl (hb hby at_38)
  have V15 : Arv Z h15 b1 k1 .int (18 : Int32) [(.int (0 : Int32)), (.int (9 : Int32)), (.int (10 : Int32)), (.int (13 : Int32)), (.int (32 : Int32)), (.int (55295 : Int32)), (.int (55296 : Int32)), (.int (0 : Int32)), (.int (0 : Int32)), (.int (0 : Int32)), (.int (0 : Int32)), (.int (0 : Int32)), (.int (0 : Int32)), (.int (0 : Int32)), (.int (0 : Int32)), (.int (0 : Int32)), (.int (0 : Int32)), (.int (0 : Int32))] (.int (0 : Int32)) := Arv.set Ar14 qa14 Sa14 Na14 Ha14 Ga14 rfl W15 6 rfl (Nat.le_of_ble_eq_true rfl)
  obtain ⟨Lo15, X15, N15⟩ : ∃ K, Stand p l e room_1 s m #[(.int i1), (.int i2), (.int i3)] below meth c T15 K 1 18 ∧ Fr n0 K := ⟨_, X15, (Fr.snoc X15 N13 g_b1)⟩
  refine own_step (f' := (mkF m 39 #[.val (.int i1), .val (.int i2), .val (.int i3), .unset, .unset] [(.ref b1)])) st15 ?_
  refine own_step (f' := (mkF m 40 #[.val (.int i1), .val (.int i2), .val (.int i3), .unset, .unset] [(.ref b1), (.ref b1)])) (fun _ k => XS.dup X15.here hx rfl (hb hby at_39) rfl rfl k) ?_
  refine own_step (f' := (mkF m 42 #[.val (.int i1), .val (.int i2), .val (.int i3), .unset, .unset] [(.int (7 : Int32)), (.ref b1), (.ref b1)])) (fun _ k => XS.bipush X15.here hx rfl (hb hby at_40) k) ?_
  refine own_step (f' := (mkF m 44 #[.val (.int i1), .val (.int i2), .val (.int i3), .unset, .unset] [(.int (57343 : Int32)), (.int (7 : Int32)), (.ref b1), (.ref b1)])) (fun _ k => X15.ldcInt hx hown (mvT hZ (hw _ (List.mem_of_getElem? (i := 3) rfl))) (g := (mkF m 42 #[.val (.int i1), .val (.int i2), .val (.int i3), .unset, .unset] [(.int (7 : Int32)), (.ref b1), (.ref b1)])) rfl (hb hby at_42) _ k) ?_
  obtain ⟨cl16, Ar16, qa16, Sa16, Na16, Ha16, Ga16⟩ := V15
  have hin17 : ¬ ((7 : Int32) < 0 ∨ cl16.slots.size ≤ ((7 : Int32)).toNatClampNeg) := inb_of Sa16 ⟨by decide, by decide⟩
  obtain ⟨T17, h17, X17, e17, W17, st17⟩ := stI X15 hx hZ e15 Ar16 (j := (7 : Int32)) hin17 (g := (mkF m 44 #[.val (.int i1), .val (.int i2), .val (.int i3), .unset, .unset] [(.int (57343 : Int32)), (.int (7 : Int32)), (.ref b1), (.ref b1)])) rfl rfl (hb hby at_44)
  have V17 : Arv Z h17 b1 k1 .int (18 : Int32) [(.int (0 : Int32)), (.int (9 : Int32)), (.int (10 : Int32)), (.int (13 : Int32)), (.int (32 : Int32)), (.int (55295 : Int32)), (.int (55296 : Int32)), (.int (57343 : Int32)), (.int (0 : Int32)), (.int (0 : Int32)), (.int (0 : Int32)), (.int (0 : Int32)), (.int (0 : Int32)), (.int (0 : Int32)), (.int (0 : Int32)), (.int (0 : Int32)), (.int (0 : Int32)), (.int (0 : Int32))] (.int (0 : Int32)) := Arv.set Ar16 qa16 Sa16 Na16 Ha16 Ga16 rfl W17 7 rfl (Nat.le_of_ble_eq_true rfl)
  obtain ⟨Lo17, X17, N17⟩ : ∃ K, Stand p l e room_1 s m #[(.int i1), (.int i2), (.int i3)] below meth c T17 K 1 18 ∧ Fr n0 K := ⟨_, X17, (Fr.snoc X17 N15 g_b1)⟩
  refine own_step (f' := (mkF m 45 #[.val (.int i1), .val (.int i2), .val (.int i3), .unset, .unset] [(.ref b1)])) st17 ?_
  refine own_step (f' := (mkF m 46 #[.val (.int i1), .val (.int i2), .val (.int i3), .unset, .unset] [(.ref b1), (.ref b1)])) (fun _ k => XS.dup X17.here hx rfl (hb hby at_45) rfl rfl k) ?_
  refine own_step (f' := (mkF m 48 #[.val (.int i1), .val (.int i2), .val (.int i3), .unset, .unset] [(.int (8 : Int32)), (.ref b1), (.ref b1)])) (fun _ k => XS.bipush X17.here hx rfl (hb hby at_46) k) ?_
  refine own_step (f' := (mkF m 50 #[.val (.int i1), .val (.int i2), .val (.int i3), .unset, .unset] [(.int (57344 : Int32)), (.int (8 : Int32)), (.ref b1), (.ref b1)])) (fun _ k => X17.ldcInt hx hown (mvT hZ (hw _ (List.mem_of_getElem? (i := 4) rfl))) (g := (mkF m 48 #[.val (.int i1), .val (.int i2), .val (.int i3), .unset, .unset] [(.int (8 : Int32)), (.ref b1), (.ref b1)])) rfl (hb hby at_48) _ k) ?_
  obtain ⟨cl18, Ar18, qa18, Sa18, Na18, Ha18, Ga18⟩ := V17
  have hin19 : ¬ ((8 : Int32) < 0 ∨ cl18.slots.size ≤ ((8 : Int32)).toNatClampNeg) := inb_of Sa18 ⟨by decide, by decide⟩
  obtain ⟨T19, h19, X19, e19, W19, st19⟩ := stI X17 hx hZ e17 Ar18 (j := (8 : Int32)) hin19 (g := (mkF m 50 #[.val (.int i1), .val (.int i2), .val (.int i3), .unset, .unset] [(.int (57344 : Int32)), (.int (8 : Int32)), (.ref b1), (.ref b1)])) rfl rfl (hb hby at_50)
  have V19 : Arv Z h19 b1 k1 .int (18 : Int32) [(.int (0 : Int32)), (.int (9 : Int32)), (.int (10 : Int32)), (.int (13 : Int32)), (.int (32 : Int32)), (.int (55295 : Int32)), (.int (55296 : Int32)), (.int (57343 : Int32)), (.int (57344 : Int32)), (.int (0 : Int32)), (.int (0 : Int32)), (.int (0 : Int32)), (.int (0 : Int32)), (.int (0 : Int32)), (.int (0 : Int32)), (.int (0 : Int32)), (.int (0 : Int32)), (.int (0 : Int32))] (.int (0 : Int32)) := Arv.set Ar18 qa18 Sa18 Na18 Ha18 Ga18 rfl W19 8 rfl (Nat.le_of_ble_eq_true rfl)
  obtain ⟨Lo19, X19, N19⟩ : ∃ K, Stand p l e room_1 s m #[(.int i1), (.int i2), (.int i3)] below meth c T19 K 1 18 ∧ Fr n0 K := ⟨_, X19, (Fr.snoc X19 N17 g_b1)⟩
  refine own_step (f' := (mkF m 51 #[.val (.int i1), .val (.int i2), .val (.int i3), .unset, .unset] [(.ref b1)])) st19 ?_
  refine own_step (f' := (mkF m 52 #[.val (.int i1), .val (.int i2), .val (.int i3), .unset, .unset] [(.ref b1), (.ref b1)])) (fun _ k => XS.dup X19.here hx rfl (hb hby at_51) rfl rfl k) ?_
  refine own_step (f' := (mkF m 54 #[.val (.int i1), .val (.int i2), .val (.int i3), .unset, .unset] [(.int (9 : Int32)), (.ref b1), (.ref b1)])) (fun _ k => XS.bipush X19.here hx rfl (hb hby at_52) k) ?_
  refine own_step (f' := (mkF m 56 #[.val (.int i1), .val (.int i2), .val (.int i3), .unset, .unset] [(.int (65533 : Int32)), (.int (9 : Int32)), (.ref b1), (.ref b1)])) (fun _ k => X19.ldcInt hx hown (mvT hZ (hw _ (List.mem_of_getElem? (i := 5) rfl))) (g := (mkF m 54 #[.val (.int i1), .val (.int i2), .val (.int i3), .unset, .unset] [(.int (9 : Int32)), (.ref b1), (.ref b1)])) rfl (hb hby at_54) _ k) ?_
  obtain ⟨cl20, Ar20, qa20, Sa20, Na20, Ha20, Ga20⟩ := V19
  have hin21 : ¬ ((9 : Int32) < 0 ∨ cl20.slots.size ≤ ((9 : Int32)).toNatClampNeg) := inb_of Sa20 ⟨by decide, by decide⟩
  obtain ⟨T21, h21, X21, e21, W21, st21⟩ := stI X19 hx hZ e19 Ar20 (j := (9 : Int32)) hin21 (g := (mkF m 56 #[.val (.int i1), .val (.int i2), .val (.int i3), .unset, .unset] [(.int (65533 : Int32)), (.int (9 : Int32)), (.ref b1), (.ref b1)])) rfl rfl (hb hby at_56)
  have V21 : Arv Z h21 b1 k1 .int (18 : Int32) [(.int (0 : Int32)), (.int (9 : Int32)), (.int (10 : Int32)), (.int (13 : Int32)), (.int (32 : Int32)), (.int (55295 : Int32)), (.int (55296 : Int32)), (.int (57343 : Int32)), (.int (57344 : Int32)), (.int (65533 : Int32)), (.int (0 : Int32)), (.int (0 : Int32)), (.int (0 : Int32)), (.int (0 : Int32)), (.int (0 : Int32)), (.int (0 : Int32)), (.int (0 : Int32)), (.int (0 : Int32))] (.int (0 : Int32)) := Arv.set Ar20 qa20 Sa20 Na20 Ha20 Ga20 rfl W21 9 rfl (Nat.le_of_ble_eq_true rfl)
  obtain ⟨Lo21, X21, N21⟩ : ∃ K, Stand p l e room_1 s m #[(.int i1), (.int i2), (.int i3)] below meth c T21 K 1 18 ∧ Fr n0 K := ⟨_, X21, (Fr.snoc X21 N19 g_b1)⟩
  refine own_step (f' := (mkF m 57 #[.val (.int i1), .val (.int i2), .val (.int i3), .unset, .unset] [(.ref b1)])) st21 ?_
  refine own_step (f' := (mkF m 58 #[.val (.int i1), .val (.int i2), .val (.int i3), .unset, .unset] [(.ref b1), (.ref b1)])) (fun _ k => XS.dup X21.here hx rfl (hb hby at_57) rfl rfl k) ?_
  refine own_step (f' := (mkF m 60 #[.val (.int i1), .val (.int i2), .val (.int i3), .unset, .unset] [(.int (10 : Int32)), (.ref b1), (.ref b1)])) (fun _ k => XS.bipush X21.here hx rfl (hb hby at_58) k) ?_
  refine own_step (f' := (mkF m 62 #[.val (.int i1), .val (.int i2), .val (.int i3), .unset, .unset] [(.int (65534 : Int32)), (.int (10 : Int32)), (.ref b1), (.ref b1)])) (fun _ k => X21.ldcInt hx hown (mvT hZ (hw _ (List.mem_of_getElem? (i := 6) rfl))) (g := (mkF m 60 #[.val (.int i1), .val (.int i2), .val (.int i3), .unset, .unset] [(.int (10 : Int32)), (.ref b1), (.ref b1)])) rfl (hb hby at_60) _ k) ?_
  obtain ⟨cl22, Ar22, qa22, Sa22, Na22, Ha22, Ga22⟩ := V21
  have hin23 : ¬ ((10 : Int32) < 0 ∨ cl22.slots.size ≤ ((10 : Int32)).toNatClampNeg) := inb_of Sa22 ⟨by decide, by decide⟩
  obtain ⟨T23, h23, X23, e23, W23, st23⟩ := stI X21 hx hZ e21 Ar22 (j := (10 : Int32)) hin23 (g := (mkF m 62 #[.val (.int i1), .val (.int i2), .val (.int i3), .unset, .unset] [(.int (65534 : Int32)), (.int (10 : Int32)), (.ref b1), (.ref b1)])) rfl rfl (hb hby at_62)
  have V23 : Arv Z h23 b1 k1 .int (18 : Int32) [(.int (0 : Int32)), (.int (9 : Int32)), (.int (10 : Int32)), (.int (13 : Int32)), (.int (32 : Int32)), (.int (55295 : Int32)), (.int (55296 : Int32)), (.int (57343 : Int32)), (.int (57344 : Int32)), (.int (65533 : Int32)), (.int (65534 : Int32)), (.int (0 : Int32)), (.int (0 : Int32)), (.int (0 : Int32)), (.int (0 : Int32)), (.int (0 : Int32)), (.int (0 : Int32)), (.int (0 : Int32))] (.int (0 : Int32)) := Arv.set Ar22 qa22 Sa22 Na22 Ha22 Ga22 rfl W23 10 rfl (Nat.le_of_ble_eq_true rfl)
  obtain ⟨Lo23, X23, N23⟩ : ∃ K, Stand p l e room_1 s m #[(.int i1), (.int i2), (.int i3)] below meth c T23 K 1 18 ∧ Fr n0 K := ⟨_, X23, (Fr.snoc X23 N21 g_b1)⟩
  refine own_step (f' := (mkF m 63 #[.val (.int i1), .val (.int i2), .val (.int i3), .unset, .unset] [(.ref b1)])) st23 ?_
  refine own_step (f' := (mkF m 64 #[.val (.int i1), .val (.int i2), .val (.int i3), .unset, .unset] [(.ref b1), (.ref b1)])) (fun _ k => XS.dup X23.here hx rfl (hb hby at_63) rfl rfl k) ?_
  refine own_step (f' := (mkF m 66 #[.val (.int i1), .val (.int i2), .val (.int i3), .unset, .unset] [(.int (11 : Int32)), (.ref b1), (.ref b1)])) (fun _ k => XS.bipush X23.here hx rfl (hb hby at_64) k) ?_
  refine own_step (f' := (mkF m 68 #[.val (.int i1), .val (.int i2), .val (.int i3), .unset, .unset] [(.int (65535 : Int32)), (.int (11 : Int32)), (.ref b1), (.ref b1)])) (fun _ k => X23.ldcInt hx hown (mvT hZ (hw _ (List.mem_of_getElem? (i := 7) rfl))) (g := (mkF m 66 #[.val (.int i1), .val (.int i2), .val (.int i3), .unset, .unset] [(.int (11 : Int32)), (.ref b1), (.ref b1)])) rfl (hb hby at_66) _ k) ?_
  obtain ⟨cl24, Ar24, qa24, Sa24, Na24, Ha24, Ga24⟩ := V23
  have hin25 : ¬ ((11 : Int32) < 0 ∨ cl24.slots.size ≤ ((11 : Int32)).toNatClampNeg) := inb_of Sa24 ⟨by decide, by decide⟩
  obtain ⟨T25, h25, X25, e25, W25, st25⟩ := stI X23 hx hZ e23 Ar24 (j := (11 : Int32)) hin25 (g := (mkF m 68 #[.val (.int i1), .val (.int i2), .val (.int i3), .unset, .unset] [(.int (65535 : Int32)), (.int (11 : Int32)), (.ref b1), (.ref b1)])) rfl rfl (hb hby at_68)
  have V25 : Arv Z h25 b1 k1 .int (18 : Int32) [(.int (0 : Int32)), (.int (9 : Int32)), (.int (10 : Int32)), (.int (13 : Int32)), (.int (32 : Int32)), (.int (55295 : Int32)), (.int (55296 : Int32)), (.int (57343 : Int32)), (.int (57344 : Int32)), (.int (65533 : Int32)), (.int (65534 : Int32)), (.int (65535 : Int32)), (.int (0 : Int32)), (.int (0 : Int32)), (.int (0 : Int32)), (.int (0 : Int32)), (.int (0 : Int32)), (.int (0 : Int32))] (.int (0 : Int32)) := Arv.set Ar24 qa24 Sa24 Na24 Ha24 Ga24 rfl W25 11 rfl (Nat.le_of_ble_eq_true rfl)
  obtain ⟨Lo25, X25, N25⟩ : ∃ K, Stand p l e room_1 s m #[(.int i1), (.int i2), (.int i3)] below meth c T25 K 1 18 ∧ Fr n0 K := ⟨_, X25, (Fr.snoc X25 N23 g_b1)⟩
  refine own_step (f' := (mkF m 69 #[.val (.int i1), .val (.int i2), .val (.int i3), .unset, .unset] [(.ref b1)])) st25 ?_
  refine own_step (f' := (mkF m 70 #[.val (.int i1), .val (.int i2), .val (.int i3), .unset, .unset] [(.ref b1), (.ref b1)])) (fun _ k => XS.dup X25.here hx rfl (hb hby at_69) rfl rfl k) ?_
  refine own_step (f' := (mkF m 72 #[.val (.int i1), .val (.int i2), .val (.int i3), .unset, .unset] [(.int (12 : Int32)), (.ref b1), (.ref b1)])) (fun _ k => XS.bipush X25.here hx rfl (hb hby at_70) k) ?_
  refine own_step (f' := (mkF m 74 #[.val (.int i1), .val (.int i2), .val (.int i3), .unset, .unset] [(.int (65536 : Int32)), (.int (12 : Int32)), (.ref b1), (.ref b1)])) (fun _ k => X25.ldcInt hx hown (mvT hZ (hw _ (List.mem_of_getElem? (i := 8) rfl))) (g := (mkF m 72 #[.val (.int i1), .val (.int i2), .val (.int i3), .unset, .unset] [(.int (12 : Int32)), (.ref b1), (.ref b1)])) rfl (hb hby at_72) _ k) ?_
  obtain ⟨cl26, Ar26, qa26, Sa26, Na26, Ha26, Ga26⟩ := V25
  have hin27 : ¬ ((12 : Int32) < 0 ∨ cl26.slots.size ≤ ((12 : Int32)).toNatClampNeg) := inb_of Sa26 ⟨by decide, by decide⟩
  obtain ⟨T27, h27, X27, e27, W27, st27⟩ := stI X25 hx hZ e25 Ar26 (j := (12 : Int32)) hin27 (g := (mkF m 74 #[.val (.int i1), .val (.int i2), .val (.int i3), .unset, .unset] [(.int (65536 : Int32)), (.int (12 : Int32)), (.ref b1), (.ref b1)])) rfl rfl (hb hby at_74)
  have V27 : Arv Z h27 b1 k1 .int (18 : Int32) [(.int (0 : Int32)), (.int (9 : Int32)), (.int (10 : Int32)), (.int (13 : Int32)), (.int (32 : Int32)), (.int (55295 : Int32)), (.int (55296 : Int32)), (.int (57343 : Int32)), (.int (57344 : Int32)), (.int (65533 : Int32)), (.int (65534 : Int32)), (.int (65535 : Int32)), (.int (65536 : Int32)), (.int (0 : Int32)), (.int (0 : Int32)), (.int (0 : Int32)), (.int (0 : Int32)), (.int (0 : Int32))] (.int (0 : Int32)) := Arv.set Ar26 qa26 Sa26 Na26 Ha26 Ga26 rfl W27 12 rfl (Nat.le_of_ble_eq_true rfl)
  obtain ⟨Lo27, X27, N27⟩ : ∃ K, Stand p l e room_1 s m #[(.int i1), (.int i2), (.int i3)] below meth c T27 K 1 18 ∧ Fr n0 K := ⟨_, X27, (Fr.snoc X27 N25 g_b1)⟩
  refine own_step (f' := (mkF m 75 #[.val (.int i1), .val (.int i2), .val (.int i3), .unset, .unset] [(.ref b1)])) st27 ?_
  refine own_step (f' := (mkF m 76 #[.val (.int i1), .val (.int i2), .val (.int i3), .unset, .unset] [(.ref b1), (.ref b1)])) (fun _ k => XS.dup X27.here hx rfl (hb hby at_75) rfl rfl k) ?_
  refine own_step (f' := (mkF m 78 #[.val (.int i1), .val (.int i2), .val (.int i3), .unset, .unset] [(.int (13 : Int32)), (.ref b1), (.ref b1)])) (fun _ k => XS.bipush X27.here hx rfl (hb hby at_76) k) ?_
  refine own_step (f' := (mkF m 80 #[.val (.int i1), .val (.int i2), .val (.int i3), .unset, .unset] [(.int (1114111 : Int32)), (.int (13 : Int32)), (.ref b1), (.ref b1)])) (fun _ k => X27.ldcInt hx hown (mvT hZ (hw _ (List.mem_of_getElem? (i := 9) rfl))) (g := (mkF m 78 #[.val (.int i1), .val (.int i2), .val (.int i3), .unset, .unset] [(.int (13 : Int32)), (.ref b1), (.ref b1)])) rfl (hb hby at_78) _ k) ?_
  obtain ⟨cl28, Ar28, qa28, Sa28, Na28, Ha28, Ga28⟩ := V27
  have hin29 : ¬ ((13 : Int32) < 0 ∨ cl28.slots.size ≤ ((13 : Int32)).toNatClampNeg) := inb_of Sa28 ⟨by decide, by decide⟩
  obtain ⟨T29, h29, X29, e29, W29, st29⟩ := stI X27 hx hZ e27 Ar28 (j := (13 : Int32)) hin29 (g := (mkF m 80 #[.val (.int i1), .val (.int i2), .val (.int i3), .unset, .unset] [(.int (1114111 : Int32)), (.int (13 : Int32)), (.ref b1), (.ref b1)])) rfl rfl (hb hby at_80)
  have V29 : Arv Z h29 b1 k1 .int (18 : Int32) [(.int (0 : Int32)), (.int (9 : Int32)), (.int (10 : Int32)), (.int (13 : Int32)), (.int (32 : Int32)), (.int (55295 : Int32)), (.int (55296 : Int32)), (.int (57343 : Int32)), (.int (57344 : Int32)), (.int (65533 : Int32)), (.int (65534 : Int32)), (.int (65535 : Int32)), (.int (65536 : Int32)), (.int (1114111 : Int32)), (.int (0 : Int32)), (.int (0 : Int32)), (.int (0 : Int32)), (.int (0 : Int32))] (.int (0 : Int32)) := Arv.set Ar28 qa28 Sa28 Na28 Ha28 Ga28 rfl W29 13 rfl (Nat.le_of_ble_eq_true rfl)
  obtain ⟨Lo29, X29, N29⟩ : ∃ K, Stand p l e room_1 s m #[(.int i1), (.int i2), (.int i3)] below meth c T29 K 1 18 ∧ Fr n0 K := ⟨_, X29, (Fr.snoc X29 N27 g_b1)⟩
  refine own_step (f' := (mkF m 81 #[.val (.int i1), .val (.int i2), .val (.int i3), .unset, .unset] [(.ref b1)])) st29 ?_
  refine own_step (f' := (mkF m 82 #[.val (.int i1), .val (.int i2), .val (.int i3), .unset, .unset] [(.ref b1), (.ref b1)])) (fun _ k => XS.dup X29.here hx rfl (hb hby at_81) rfl rfl k) ?_
  refine own_step (f' := (mkF m 84 #[.val (.int i1), .val (.int i2), .val (.int i3), .unset, .unset] [(.int (14 : Int32)), (.ref b1), (.ref b1)])) (fun _ k => XS.bipush X29.here hx rfl (hb hby at_82) k) ?_
  refine own_step (f' := (mkF m 86 #[.val (.int i1), .val (.int i2), .val (.int i3), .unset, .unset] [(.int (1114112 : Int32)), (.int (14 : Int32)), (.ref b1), (.ref b1)])) (fun _ k => X29.ldcInt hx hown (mvT hZ (hw _ (List.mem_of_getElem? (i := 10) rfl))) (g := (mkF m 84 #[.val (.int i1), .val (.int i2), .val (.int i3), .unset, .unset] [(.int (14 : Int32)), (.ref b1), (.ref b1)])) rfl (hb hby at_84) _ k) ?_
  obtain ⟨cl30, Ar30, qa30, Sa30, Na30, Ha30, Ga30⟩ := V29
  have hin31 : ¬ ((14 : Int32) < 0 ∨ cl30.slots.size ≤ ((14 : Int32)).toNatClampNeg) := inb_of Sa30 ⟨by decide, by decide⟩
  obtain ⟨T31, h31, X31, e31, W31, st31⟩ := stI X29 hx hZ e29 Ar30 (j := (14 : Int32)) hin31 (g := (mkF m 86 #[.val (.int i1), .val (.int i2), .val (.int i3), .unset, .unset] [(.int (1114112 : Int32)), (.int (14 : Int32)), (.ref b1), (.ref b1)])) rfl rfl (hb hby at_86)
  have V31 : Arv Z h31 b1 k1 .int (18 : Int32) [(.int (0 : Int32)), (.int (9 : Int32)), (.int (10 : Int32)), (.int (13 : Int32)), (.int (32 : Int32)), (.int (55295 : Int32)), (.int (55296 : Int32)), (.int (57343 : Int32)), (.int (57344 : Int32)), (.int (65533 : Int32)), (.int (65534 : Int32)), (.int (65535 : Int32)), (.int (65536 : Int32)), (.int (1114111 : Int32)), (.int (1114112 : Int32)), (.int (0 : Int32)), (.int (0 : Int32)), (.int (0 : Int32))] (.int (0 : Int32)) := Arv.set Ar30 qa30 Sa30 Na30 Ha30 Ga30 rfl W31 14 rfl (Nat.le_of_ble_eq_true rfl)
  obtain ⟨Lo31, X31, N31⟩ : ∃ K, Stand p l e room_1 s m #[(.int i1), (.int i2), (.int i3)] below meth c T31 K 1 18 ∧ Fr n0 K := ⟨_, X31, (Fr.snoc X31 N29 g_b1)⟩
  refine own_step (f' := (mkF m 87 #[.val (.int i1), .val (.int i2), .val (.int i3), .unset, .unset] [(.ref b1)])) st31 ?_
  refine own_step (f' := (mkF m 88 #[.val (.int i1), .val (.int i2), .val (.int i3), .unset, .unset] [(.ref b1), (.ref b1)])) (fun _ k => XS.dup X31.here hx rfl (hb hby at_87) rfl rfl k) ?_
  refine own_step (f' := (mkF m 90 #[.val (.int i1), .val (.int i2), .val (.int i3), .unset, .unset] [(.int (15 : Int32)), (.ref b1), (.ref b1)])) (fun _ k => XS.bipush X31.here hx rfl (hb hby at_88) k) ?_
  refine own_step (f' := (mkF m 92 #[.val (.int i1), .val (.int i2), .val (.int i3), .unset, .unset] [(.int (-2147483648 : Int32)), (.int (15 : Int32)), (.ref b1), (.ref b1)])) (fun _ k => X31.ldcInt hx hown (mvT hZ (hw _ (List.mem_of_getElem? (i := 11) rfl))) (g := (mkF m 90 #[.val (.int i1), .val (.int i2), .val (.int i3), .unset, .unset] [(.int (15 : Int32)), (.ref b1), (.ref b1)])) rfl (hb hby at_90) _ k) ?_
  obtain ⟨cl32, Ar32, qa32, Sa32, Na32, Ha32, Ga32⟩ := V31
  have hin33 : ¬ ((15 : Int32) < 0 ∨ cl32.slots.size ≤ ((15 : Int32)).toNatClampNeg) := inb_of Sa32 ⟨by decide, by decide⟩
  obtain ⟨T33, h33, X33, e33, W33, st33⟩ := stI X31 hx hZ e31 Ar32 (j := (15 : Int32)) hin33 (g := (mkF m 92 #[.val (.int i1), .val (.int i2), .val (.int i3), .unset, .unset] [(.int (-2147483648 : Int32)), (.int (15 : Int32)), (.ref b1), (.ref b1)])) rfl rfl (hb hby at_92)
  have V33 : Arv Z h33 b1 k1 .int (18 : Int32) [(.int (0 : Int32)), (.int (9 : Int32)), (.int (10 : Int32)), (.int (13 : Int32)), (.int (32 : Int32)), (.int (55295 : Int32)), (.int (55296 : Int32)), (.int (57343 : Int32)), (.int (57344 : Int32)), (.int (65533 : Int32)), (.int (65534 : Int32)), (.int (65535 : Int32)), (.int (65536 : Int32)), (.int (1114111 : Int32)), (.int (1114112 : Int32)), (.int (-2147483648 : Int32)), (.int (0 : Int32)), (.int (0 : Int32))] (.int (0 : Int32)) := Arv.set Ar32 qa32 Sa32 Na32 Ha32 Ga32 rfl W33 15 rfl (Nat.le_of_ble_eq_true rfl)
  obtain ⟨Lo33, X33, N33⟩ : ∃ K, Stand p l e room_1 s m #[(.int i1), (.int i2), (.int i3)] below meth c T33 K 1 18 ∧ Fr n0 K := ⟨_, X33, (Fr.snoc X33 N31 g_b1)⟩
  refine own_step (f' := (mkF m 93 #[.val (.int i1), .val (.int i2), .val (.int i3), .unset, .unset] [(.ref b1)])) st33 ?_
  refine own_step (f' := (mkF m 94 #[.val (.int i1), .val (.int i2), .val (.int i3), .unset, .unset] [(.ref b1), (.ref b1)])) (fun _ k => XS.dup X33.here hx rfl (hb hby at_93) rfl rfl k) ?_
  refine own_step (f' := (mkF m 96 #[.val (.int i1), .val (.int i2), .val (.int i3), .unset, .unset] [(.int (16 : Int32)), (.ref b1), (.ref b1)])) (fun _ k => XS.bipush X33.here hx rfl (hb hby at_94) k) ?_
  refine own_step (f' := (mkF m 98 #[.val (.int i1), .val (.int i2), .val (.int i3), .unset, .unset] [(.int (2147483647 : Int32)), (.int (16 : Int32)), (.ref b1), (.ref b1)])) (fun _ k => X33.ldcInt hx hown (mvT hZ (hw _ (List.mem_of_getElem? (i := 12) rfl))) (g := (mkF m 96 #[.val (.int i1), .val (.int i2), .val (.int i3), .unset, .unset] [(.int (16 : Int32)), (.ref b1), (.ref b1)])) rfl (hb hby at_96) _ k) ?_
  obtain ⟨cl34, Ar34, qa34, Sa34, Na34, Ha34, Ga34⟩ := V33
  have hin35 : ¬ ((16 : Int32) < 0 ∨ cl34.slots.size ≤ ((16 : Int32)).toNatClampNeg) := inb_of Sa34 ⟨by decide, by decide⟩
  obtain ⟨T35, h35, X35, e35, W35, st35⟩ := stI X33 hx hZ e33 Ar34 (j := (16 : Int32)) hin35 (g := (mkF m 98 #[.val (.int i1), .val (.int i2), .val (.int i3), .unset, .unset] [(.int (2147483647 : Int32)), (.int (16 : Int32)), (.ref b1), (.ref b1)])) rfl rfl (hb hby at_98)
  have V35 : Arv Z h35 b1 k1 .int (18 : Int32) [(.int (0 : Int32)), (.int (9 : Int32)), (.int (10 : Int32)), (.int (13 : Int32)), (.int (32 : Int32)), (.int (55295 : Int32)), (.int (55296 : Int32)), (.int (57343 : Int32)), (.int (57344 : Int32)), (.int (65533 : Int32)), (.int (65534 : Int32)), (.int (65535 : Int32)), (.int (65536 : Int32)), (.int (1114111 : Int32)), (.int (1114112 : Int32)), (.int (-2147483648 : Int32)), (.int (2147483647 : Int32)), (.int (0 : Int32))] (.int (0 : Int32)) := Arv.set Ar34 qa34 Sa34 Na34 Ha34 Ga34 rfl W35 16 rfl (Nat.le_of_ble_eq_true rfl)
  obtain ⟨Lo35, X35, N35⟩ : ∃ K, Stand p l e room_1 s m #[(.int i1), (.int i2), (.int i3)] below meth c T35 K 1 18 ∧ Fr n0 K := ⟨_, X35, (Fr.snoc X35 N33 g_b1)⟩
  refine own_step (f' := (mkF m 99 #[.val (.int i1), .val (.int i2), .val (.int i3), .unset, .unset] [(.ref b1)])) st35 ?_
  refine own_step (f' := (mkF m 100 #[.val (.int i1), .val (.int i2), .val (.int i3), .unset, .unset] [(.ref b1), (.ref b1)])) (fun _ k => XS.dup X35.here hx rfl (hb hby at_99) rfl rfl k) ?_
  refine own_step (f' := (mkF m 102 #[.val (.int i1), .val (.int i2), .val (.int i3), .unset, .unset] [(.int (17 : Int32)), (.ref b1), (.ref b1)])) (fun _ k => XS.bipush X35.here hx rfl (hb hby at_100) k) ?_
  refine own_step (f' := (mkF m 103 #[.val (.int i1), .val (.int i2), .val (.int i3), .unset, .unset] [(.int (-1 : Int32)), (.int (17 : Int32)), (.ref b1), (.ref b1)])) (fun _ k => XS.iconst X35.here hx rfl (hb hby at_102) k) ?_
  obtain ⟨cl36, Ar36, qa36, Sa36, Na36, Ha36, Ga36⟩ := V35
  have hin37 : ¬ ((17 : Int32) < 0 ∨ cl36.slots.size ≤ ((17 : Int32)).toNatClampNeg) := inb_of Sa36 ⟨by decide, by decide⟩
  obtain ⟨T37, h37, X37, e37, W37, st37⟩ := stI X35 hx hZ e35 Ar36 (j := (17 : Int32)) hin37 (g := (mkF m 103 #[.val (.int i1), .val (.int i2), .val (.int i3), .unset, .unset] [(.int (-1 : Int32)), (.int (17 : Int32)), (.ref b1), (.ref b1)])) rfl rfl (hb hby at_103)
  have V37 : Arv Z h37 b1 k1 .int (18 : Int32) [(.int (0 : Int32)), (.int (9 : Int32)), (.int (10 : Int32)), (.int (13 : Int32)), (.int (32 : Int32)), (.int (55295 : Int32)), (.int (55296 : Int32)), (.int (57343 : Int32)), (.int (57344 : Int32)), (.int (65533 : Int32)), (.int (65534 : Int32)), (.int (65535 : Int32)), (.int (65536 : Int32)), (.int (1114111 : Int32)), (.int (1114112 : Int32)), (.int (-2147483648 : Int32)), (.int (2147483647 : Int32)), (.int (-1 : Int32))] (.int (0 : Int32)) := Arv.set Ar36 qa36 Sa36 Na36 Ha36 Ga36 rfl W37 17 rfl (Nat.le_of_ble_eq_true rfl)
  obtain ⟨Lo37, X37, N37⟩ : ∃ K, Stand p l e room_1 s m #[(.int i1), (.int i2), (.int i3)] below meth c T37 K 1 18 ∧ Fr n0 K := ⟨_, X37, (Fr.snoc X37 N35 g_b1)⟩
  refine own_step (f' := (mkF m 104 #[.val (.int i1), .val (.int i2), .val (.int i3), .unset, .unset] [(.ref b1)])) st37 ?_
  refine own_step (f' := (mkF m 105 #[.val (.int i1), .val (.int i2), .val (.int i3), .val (.ref b1), .unset] [])) (fun _ k => XS.astoreN X37.here hx rfl (hb hby at_104) rfl rfl (l' := #[.val (.int i1), .val (.int i2), .val (.int i3), .val (.ref b1), .unset]) rfl k) ?_
  refine own_step (f' := (mkF m 106 #[.val (.int i1), .val (.int i2), .val (.int i3), .val (.ref b1), .unset] [(.int i2)])) (fun _ k => XS.iloadN X37.here hx rfl (hb hby at_105) rfl k) ?_
  refine own_step (f' := (mkF m 107 #[.val (.int i1), .val (.int i2), .val (.int i3), .val (.ref b1), .unset] [(.int (1 : Int32)), (.int i2)])) (fun _ k => XS.iconst X37.here hx rfl (hb hby at_106) k) ?_
  refine own_step (f' := (mkF m 108 #[.val (.int i1), .val (.int i2), .val (.int i3), .val (.ref b1), .unset] [(.int (i2 &&& (1 : Int32)))])) (fun _ k => XS.iand X37.here hx rfl (hb hby at_107) rfl k) ?_
  have J108_41 : ∀ (T108_41 : State) (v108_41_l4 : Int32), Stand p l e room_1 s m #[(.int i1), (.int i2), (.int i3)] below meth c T108_41 Lo37 1 18 → T108_41.heap = h37 → own_Goes p e below s (Q0 Z i1 i2 i3 h0 n0) room_1.cells room_1.slots T108_41 (mkF m 131 #[.val (.int i1), .val (.int i2), .val (.int i3), .val (.ref b1), .val (.int v108_41_l4)] []) := by
    intro T108_41 v108_41_l4 X108_41 e108_41 
    refine own_step (f' := (mkF m 133 #[.val (.int i1), .val (.int i2), .val (.int i3), .val (.ref b1), .val (.int v108_41_l4)] [(.int v108_41_l4)])) (fun _ k => XS.iload X108_41.here hx rfl (hb hby at_131) rfl k) ?_
    have Zq42 : n0 ≤ h37.size := (Nat.le_trans (Nat.le_trans (Nat.le_trans (Nat.le_trans (Nat.le_trans (Nat.le_trans (Nat.le_trans (Nat.le_trans (Nat.le_trans (Nat.le_trans (Nat.le_trans (Nat.le_trans (Nat.le_trans (Nat.le_trans (Nat.le_trans (Nat.le_trans (Nat.le_trans (Nat.le_trans (Nat.le_trans Z0 E1.1) (Nat.le_of_eq W3.size.symm)) (Nat.le_of_eq W5.size.symm)) (Nat.le_of_eq W7.size.symm)) (Nat.le_of_eq W9.size.symm)) (Nat.le_of_eq W11.size.symm)) (Nat.le_of_eq W13.size.symm)) (Nat.le_of_eq W15.size.symm)) (Nat.le_of_eq W17.size.symm)) (Nat.le_of_eq W19.size.symm)) (Nat.le_of_eq W21.size.symm)) (Nat.le_of_eq W23.size.symm)) (Nat.le_of_eq W25.size.symm)) (Nat.le_of_eq W27.size.symm)) (Nat.le_of_eq W29.size.symm)) (Nat.le_of_eq W31.size.symm)) (Nat.le_of_eq W33.size.symm)) (Nat.le_of_eq W35.size.symm)) (Nat.le_of_eq W37.size.symm))
    obtain ⟨_, _, ⟨T42, L42, k42, n42⟩, -, X42, ⟨Lc42, hQ42, l42, y42, z42⟩, st42⟩ := Jvm.LawKit.callS X108_41 hx (y := (⟨"com/example/valbonne/valbonne/schema/XmlChars", "isChar", "(I)Z"⟩ : MethodName)) hown (mvT hZ (hw _ (List.mem_of_getElem? (i := 13) rfl))) (mvT hZ (hw _ (List.mem_of_getElem? (i := 14) rfl))) (mvT hZ (hw _ (List.mem_of_getElem? (i := 15) rfl))) (mvT hZ (hw _ (List.mem_of_getElem? (i := 16) rfl))) (by decide) (backOf (W := 0) (rm1 l Z a0 hw [] v108_41_l4 h37 n0 Zq42 ) hZ (hw _ (List.mem_of_getElem? (i := 16) rfl)) (hw _ (List.mem_of_getElem? (i := 15) rfl)) (by decide) (by decide)) (g := (mkF m 133 #[.val (.int i1), .val (.int i2), .val (.int i3), .val (.ref b1), .val (.int v108_41_l4)] [(.int v108_41_l4)])) rfl (by rw [hml]; rfl) (argsL := [(.int v108_41_l4)]) (rest := []) (lenOf pd_0 rfl) rfl (by show 2 * 0 + _ ≤ _; exact Nat.le_of_eq rfl) (hb hby at_133) (fun _ _ => ⟨rfl, e108_41, (by decide : 1 + 0 ≤ _), (by decide : 18 + 0 ≤ _)⟩)
    dsimp only [Pt.U, Pt.locs, Pt.cells, Pt.slots] at X42 l42 y42 z42 st42 hQ42
    subst l42 y42 z42
    obtain ⟨rfl, rfl, e42⟩ := hQ42
    try rw [List.append_nil] at X42
    refine own_step (f' := (mkF m 136 #[.val (.int i1), .val (.int i2), .val (.int i3), .val (.ref b1), .val (.int v108_41_l4)] [(.int (own_ch_0 v108_41_l4))])) st42 ?_
    refine own_step (f' := (mkF m 138 #[.val (.int i1), .val (.int i2), .val (.int i3), .val (.ref b1), .val (.int v108_41_l4)] [(.int v108_41_l4), (.int (own_ch_0 v108_41_l4))])) (fun _ k => XS.iload X42.here hx rfl (hb hby at_136) rfl k) ?_
    have Zq43 : n0 ≤ h37.size := (Nat.le_trans (Nat.le_trans (Nat.le_trans (Nat.le_trans (Nat.le_trans (Nat.le_trans (Nat.le_trans (Nat.le_trans (Nat.le_trans (Nat.le_trans (Nat.le_trans (Nat.le_trans (Nat.le_trans (Nat.le_trans (Nat.le_trans (Nat.le_trans (Nat.le_trans (Nat.le_trans (Nat.le_trans Z0 E1.1) (Nat.le_of_eq W3.size.symm)) (Nat.le_of_eq W5.size.symm)) (Nat.le_of_eq W7.size.symm)) (Nat.le_of_eq W9.size.symm)) (Nat.le_of_eq W11.size.symm)) (Nat.le_of_eq W13.size.symm)) (Nat.le_of_eq W15.size.symm)) (Nat.le_of_eq W17.size.symm)) (Nat.le_of_eq W19.size.symm)) (Nat.le_of_eq W21.size.symm)) (Nat.le_of_eq W23.size.symm)) (Nat.le_of_eq W25.size.symm)) (Nat.le_of_eq W27.size.symm)) (Nat.le_of_eq W29.size.symm)) (Nat.le_of_eq W31.size.symm)) (Nat.le_of_eq W33.size.symm)) (Nat.le_of_eq W35.size.symm)) (Nat.le_of_eq W37.size.symm))
    obtain ⟨_, _, ⟨T43, L43, k43, n43⟩, -, X43, ⟨Lc43, hQ43, l43, y43, z43⟩, st43⟩ := Jvm.LawKit.callS X42 hx (y := (⟨"com/example/valbonne/valbonne/schema/XmlCharsIsCharPinLaw", "expected", "(I)Z"⟩ : MethodName)) hown (mvT hZ (hw _ (List.mem_of_getElem? (i := 19) rfl))) (mvT hZ (hw _ (List.mem_of_getElem? (i := 20) rfl))) (mvT hZ (hw _ (List.mem_of_getElem? (i := 21) rfl))) (mvT hZ (hw _ (List.mem_of_getElem? (i := 22) rfl))) (by decide) (backOf (W := 1) (rm2 l Z a0 hw [] v108_41_l4 h37 n0 Zq43 ) hZ (hw _ (List.mem_of_getElem? (i := 22) rfl)) (hw _ (List.mem_of_getElem? (i := 21) rfl)) (by decide) (by decide)) (g := (mkF m 138 #[.val (.int i1), .val (.int i2), .val (.int i3), .val (.ref b1), .val (.int v108_41_l4)] [(.int v108_41_l4), (.int (own_ch_0 v108_41_l4))])) rfl (by rw [hml]; rfl) (argsL := [(.int v108_41_l4)]) (rest := [(.int (own_ch_0 v108_41_l4))]) (lenOf pd_0 rfl) rfl (by show 2 * 0 + _ ≤ _; exact Nat.le_of_eq rfl) (hb hby at_138) (fun _ _ => ⟨rfl, e42, (by decide : 1 + 0 ≤ _), (by decide : 18 + 0 ≤ _)⟩)
    dsimp only [Pt.U, Pt.locs, Pt.cells, Pt.slots] at X43 l43 y43 z43 st43 hQ43
    subst l43 y43 z43
    obtain ⟨rfl, rfl, e43⟩ := hQ43
    try rw [List.append_nil] at X43
    refine own_step (f' := (mkF m 141 #[.val (.int i1), .val (.int i2), .val (.int i3), .val (.ref b1), .val (.int v108_41_l4)] [(.int (own_ex v108_41_l4)), (.int (own_ch_0 v108_41_l4))])) st43 ?_
    have hf141_44 : (own_ch_0 v108_41_l4) = (own_ex v108_41_l4) := own_same _
    refine own_step (f' := (mkF m 144 #[.val (.int i1), .val (.int i2), .val (.int i3), .val (.ref b1), .val (.int v108_41_l4)] [])) (fun _ k => XS.icmpNo X43.here hx rfl (hb hby at_141) rfl (teq hf141_44).2 k) ?_
    refine own_step (f' := (mkF m 145 #[.val (.int i1), .val (.int i2), .val (.int i3), .val (.ref b1), .val (.int v108_41_l4)] [(.int (1 : Int32))])) (fun _ k => XS.iconst X43.here hx rfl (hb hby at_144) k) ?_
    refine own_step (f' := (mkF m 149 #[.val (.int i1), .val (.int i2), .val (.int i3), .val (.ref b1), .val (.int v108_41_l4)] [(.int (1 : Int32))])) (fun _ k => XS.goto X43.here hx rfl (pc0 := 145) (pc' := 149) rfl (hb hby at_145) (by decide) (by decide) k) ?_
    refine own_out (v := some (.int (1 : Int32))) X43 hlk (fun h => by rw [Bd.returns] at h; cases h) (fun fs hr => retN X43 hx (t := .boolean) Bd.returns (by simp) (hb hby at_149) hr) (by decide) (by decide) ?_
    exact ⟨rfl, N37⟩
  by_cases hc108_38 : (i2 &&& (1 : Int32)) = (0 : Int32)
  · refine own_step (f' := (mkF m 117 #[.val (.int i1), .val (.int i2), .val (.int i3), .val (.ref b1), .unset] [])) (fun _ k => XS.ifYes X37.here hx rfl (pc0 := 108) (pc' := 117) rfl (hb hby at_108) rfl ((if0 _ _).trans (teq hc108_38).1) (by decide) (by decide) k) ?_
    refine own_step (f' := (mkF m 118 #[.val (.int i1), .val (.int i2), .val (.int i3), .val (.ref b1), .unset] [(.ref b1)])) (fun _ k => XS.aloadN X37.here hx rfl (hb hby at_117) rfl rfl k) ?_
    refine own_step (f' := (mkF m 119 #[.val (.int i1), .val (.int i2), .val (.int i3), .val (.ref b1), .unset] [(.int i2), (.ref b1)])) (fun _ k => XS.iloadN X37.here hx rfl (hb hby at_118) rfl k) ?_
    refine own_step (f' := (mkF m 120 #[.val (.int i1), .val (.int i2), .val (.int i3), .val (.ref b1), .unset] [(.int (1 : Int32)), (.int i2), (.ref b1)])) (fun _ k => XS.iconst X37.here hx rfl (hb hby at_119) k) ?_
    refine own_step (f' := (mkF m 121 #[.val (.int i1), .val (.int i2), .val (.int i3), .val (.ref b1), .unset] [(.int ((i2.toUInt32 >>> ((1 : Int32) &&& 31).toUInt32).toInt32)), (.ref b1)])) (fun _ k => XS.iushr X37.here hx rfl (hb hby at_120) rfl k) ?_
    refine own_step (f' := (mkF m 123 #[.val (.int i1), .val (.int i2), .val (.int i3), .val (.ref b1), .unset] [(.int (18 : Int32)), (.int ((i2.toUInt32 >>> ((1 : Int32) &&& 31).toUInt32).toInt32)), (.ref b1)])) (fun _ k => XS.bipush X37.here hx rfl (hb hby at_121) k) ?_
    refine own_step (f' := (mkF m 124 #[.val (.int i1), .val (.int i2), .val (.int i3), .val (.ref b1), .unset] [(.int (((i2.toUInt32 >>> ((1 : Int32) &&& 31).toUInt32).toInt32) % (18 : Int32))), (.ref b1)])) (fun _ k => iremM X37 hx rfl (hb hby at_123) rfl (by decide) k) ?_
    obtain ⟨cl1039, Ar1039, qa1039, Sa1039, Na1039, Ha1039, Ga1039⟩ := V37
    have hin1040 : ¬ ((((i2.toUInt32 >>> ((1 : Int32) &&& 31).toUInt32).toInt32) % (18 : Int32)) < 0 ∨ cl1039.slots.size ≤ ((((i2.toUInt32 >>> ((1 : Int32) &&& 31).toUInt32).toInt32) % (18 : Int32))).toNatClampNeg) := inb_of Sa1039 (own_idx i2)
    obtain ⟨y1040, hy1040⟩ : ∃ y, cl1039.slots[((((i2.toUInt32 >>> ((1 : Int32) &&& 31).toUInt32).toInt32) % (18 : Int32))).toNatClampNeg]? = some (.int y) := by
      have hlt : ((((i2.toUInt32 >>> ((1 : Int32) &&& 31).toUInt32).toInt32) % (18 : Int32))).toNatClampNeg < cl1039.slots.size := Nat.lt_of_not_le fun q => hin1040 (Or.inr q)
      have g1 := Ha1039 _ hlt
      have g2 := Ga1039 _ hlt
      obtain ⟨y, hy⟩ := own_fit g2
      exact ⟨y, by rw [g1, hy]⟩
    refine own_step (f' := (mkF m 125 #[.val (.int i1), .val (.int i2), .val (.int i3), .val (.ref b1), .unset] [(.int y1040)])) (fun _ k => X37.iaload hx (j := (((i2.toUInt32 >>> ((1 : Int32) &&& 31).toUInt32).toInt32) % (18 : Int32))) (v := (.int y1040)) (by rw [e37]; exact Ar1039.1) (State.isArrayOf_alike hZ.alike Ar1039.2.1) Ar1039.2.2 hin1040 hy1040 (g := (mkF m 124 #[.val (.int i1), .val (.int i2), .val (.int i3), .val (.ref b1), .unset] [(.int (((i2.toUInt32 >>> ((1 : Int32) &&& 31).toUInt32).toInt32) % (18 : Int32))), (.ref b1)])) rfl rfl (hb hby at_124) _ k) ?_
    refine own_step (f' := (mkF m 126 #[.val (.int i1), .val (.int i2), .val (.int i3), .val (.ref b1), .unset] [(.int i3), (.int y1040)])) (fun _ k => XS.iloadN X37.here hx rfl (hb hby at_125) rfl k) ?_
    refine own_step (f' := (mkF m 127 #[.val (.int i1), .val (.int i2), .val (.int i3), .val (.ref b1), .unset] [(.int (3 : Int32)), (.int i3), (.int y1040)])) (fun _ k => XS.iconst X37.here hx rfl (hb hby at_126) k) ?_
    refine own_step (f' := (mkF m 128 #[.val (.int i1), .val (.int i2), .val (.int i3), .val (.ref b1), .unset] [(.int (i3 % (3 : Int32))), (.int y1040)])) (fun _ k => iremM X37 hx rfl (hb hby at_127) rfl (by decide) k) ?_
    refine own_step (f' := (mkF m 129 #[.val (.int i1), .val (.int i2), .val (.int i3), .val (.ref b1), .unset] [(.int (y1040 + (i3 % (3 : Int32))))])) (fun _ k => XS.iadd X37.here hx rfl (hb hby at_128) rfl k) ?_
    refine own_step (f' := (mkF m 131 #[.val (.int i1), .val (.int i2), .val (.int i3), .val (.ref b1), .val (.int (y1040 + (i3 % (3 : Int32))))] [])) (fun _ k => XS.istore X37.here hx rfl (hb hby at_129) rfl (l' := #[.val (.int i1), .val (.int i2), .val (.int i3), .val (.ref b1), .val (.int (y1040 + (i3 % (3 : Int32))))]) rfl k) ?_
    exact J108_41 _ (y1040 + (i3 % (3 : Int32))) X37 e37 
  · refine own_step (f' := (mkF m 111 #[.val (.int i1), .val (.int i2), .val (.int i3), .val (.ref b1), .unset] [])) (fun _ k => XS.ifNo X37.here hx rfl (hb hby at_108) rfl ((if0 _ _).trans (feq hc108_38).1) k) ?_
    refine own_step (f' := (mkF m 112 #[.val (.int i1), .val (.int i2), .val (.int i3), .val (.ref b1), .unset] [(.int i1)])) (fun _ k => XS.iloadN X37.here hx rfl (hb hby at_111) rfl k) ?_
    refine own_step (f' := (mkF m 114 #[.val (.int i1), .val (.int i2), .val (.int i3), .val (.ref b1), .val (.int i1)] [])) (fun _ k => XS.istore X37.here hx rfl (hb hby at_112) rfl (l' := #[.val (.int i1), .val (.int i2), .val (.int i3), .val (.ref b1), .val (.int i1)]) rfl k) ?_
    refine own_step (f' := (mkF m 131 #[.val (.int i1), .val (.int i2), .val (.int i3), .val (.ref b1), .val (.int i1)] [])) (fun _ k => XS.goto X37.here hx rfl (pc0 := 114) (pc' := 131) rfl (hb hby at_114) (by decide) (by decide) k) ?_
    exact J108_41 _ i1 X37 e37 
set_option maxRecDepth 65536 in
set_option maxHeartbeats 40000000 in
theorem comes_1 {Post : Tables → Env → Array Value → State → Outcome → State → Prop} (hpost : ∀ tb e args s v u, (limb_1_1.after args s (.returned v) u = true ∧ limb_1_2.after args s (.returned v) u = true ∧ True) → FrameEnd s (.returned v) u (Jvm.fieldLocs frame_1_writes args s ++ Jvm.arrayLocs frame_1_arrays args s ++ Jvm.staticLocs frame_1_statics s) 16 128 → Post tb e args s (.returned v) u) :
    ArmFor flags0 classFile x code maxLocals ret World_1 tables_1 room_1 Calls_1 rest_1 Pre_1 Post := by
  intro l hfl _ _ p e ha hc hk s m args below hf hA hF happ hP
  obtain ⟨hcalls, hrest, hpre⟩ := hP
  obtain ⟨-, -, -, hnamed, -, -, -, hat⟩ := (Spec.applies_iff hf).mp happ
  obtain ⟨hg, hn⟩ := and_e (Cond.before_iff.mp (show (Jvm.Cond.and given_1 narrow_1).before args s = true from hpre))
  obtain ⟨gq1, gq2⟩ := and_e hg
  obtain ⟨gq3, gq4⟩ := and_e gq2
  obtain ⟨gq5, gq6⟩ := and_e gq4
  obtain ⟨w0, w1, w2, rfl⟩ : ∃ w0 w1 w2 : Value, args = #[w0, w1, w2] := by
    have hs : args.size = 3 := by simpa [Cond.value, given_1] using gq1
    obtain ⟨L⟩ := args
    match L, hs with
    | [w0, w1, w2], _ => exact ⟨w0, w1, w2, rfl⟩
  have hw := fun d (hd : d ∈ tables_1) => atoms_spec (ws := Jvm.Cond.code x code maxLocals ret :: tables_1) hat d (List.mem_cons_of_mem _ hd)
  have hfit : Fit s := fun {y c} hc i hi => by
    obtain ⟨ha, rfl⟩ := Array.getElem?_eq_some_iff.mp hc
    have q := List.all_eq_true.mp ((Array.all_eq_true_iff_forall_mem.mp hF) _ (Array.getElem_mem ha)) i (List.mem_range.mpr hi)
    simpa [Array.getElem?_eq_getElem hi] using q
  obtain ⟨i0, ei0⟩ := is_v gq3
  obtain rfl : w0 = (.int i0) := Option.some.inj ei0
  obtain ⟨i1, ei1⟩ := is_v gq5
  obtain rfl : w1 = (.int i1) := Option.some.inj ei1
  obtain ⟨i2, ei2⟩ := is_v gq6
  obtain rfl : w2 = (.int i2) := Option.some.inj ei2
  obtain ⟨n, o, h1, h2, h3, _, L, rfl, ⟨rfl, N⟩, hq⟩ := rm0 l s _ hw tables_1 i0 i1 i2  s.heap s.heap.size (Nat.le_refl _)  p e ha hc hk s m _ below hf ((Spec.applies_iff_loose hf).mp happ).1 ⟨rfl, State.Warmed39.refl s, rfl⟩ trivial
  refine ⟨n, _, h1, h2, h3, hpost _ _ _ _ _ _ ⟨Cond.after_iff.mpr rfl, Cond.after_iff.mpr (eq_i res_at (Term.int_eval (1)) rfl), trivial⟩ ⟨hq.1, hq.2.1, (hq.2.2.sift fun y hy => Or.inr (N y hy)).mono (by decide) (by decide)⟩⟩
theorem main_1_1 : Claimed_1_1 := comes_1 fun _ _ _ _ _ _ h hF => ⟨h.1, hF⟩
theorem main_1_2 : Claimed_1_2 := comes_1 fun _ _ _ _ _ _ h hF => ⟨h.2.1, hF⟩
end Jvm.Pilot.@@N@@
namespace Jvm.Pilot.@@N@@
open Jvm Jvm.ClassFile Sem Op Lib Jvm.Free Jvm.Stand Jvm.Pilot.@@N@@.Jvm.D
/-! MADE BY PROGRAM (witnessworld.py) out of the Statement's table words and the real class files: 9 classes; the members and pool entries that the words name. The judged class is class 1, her method 1. -/
namespace start1
open Jvm.ClassFile
def u (s : String) : CpInfo := .utf8 (stringToUtf16 s)
/-- a pool by its gaps: so many unusable entries, then the entry; so many at the end -/
def gap : Nat → List CpInfo → List CpInfo
  | 0, r => r
  | n + 1, r => .unusable :: gap n r
def poolList (es : List (Nat × CpInfo)) (last : Nat) : List CpInfo := es.foldr (fun e r => gap e.1 (e.2 :: r)) (gap last [])
def pool (es : List (Nat × CpInfo)) (last : Nat) : Array CpInfo := ⟨poolList es last⟩
def fileOf (pool : Array CpInfo) (this : Nat) (attrs : Array Attribute := #[]) (ms : Array MethodInfo := #[]) (fl : Nat := 33) (sup : Nat := 0) (ifs : Array Nat := #[]) (fds : Array FieldInfo := #[]) : ClassFile where
  minorVersion := 0
  majorVersion := 65
  constantPool := pool
  accessFlags := fl
  thisClass := this
  superClass := sup
  interfaces := ifs
  fields := fds
  methods := ms
  attributes := attrs
def plain (name : String) (sup : Option ClassId) : Class where
  name := name
  kind := .ordinary
  loader := none
  accessFlags := 33
  super := sup
  interfaces := #[]
  cf := none
  fields := #[]
  methods := #[]
  instanceTypes := #[]
  staticTypes := #[]
  resolved := #[]
  callSites := []
  init := .initialized
  statics := none
  mirror := none

def pool0 : Array CpInfo := pool [(5, u "<init>"), (0, u "()V"), (1, .class_ 10), (1, u "java/lang/Object")] 113

def k0m0 : Method := { name := "<init>", desc := "()V", sig := { parameters := [], returnType := none }, accessFlags := 1, code := none }
/-- java/lang/Object -/
def k0 : Class := { plain "java/lang/Object" none with
  accessFlags := 33
  interfaces := #[]
  cf := some (fileOf pool0 8 #[] #[{ accessFlags := 1, nameIndex := 5, descriptorIndex := 6, attributes := #[] }] 33 0 #[] #[])
  fields := #[]
  methods := #[k0m0]
  instanceTypes := #[]
  staticTypes := #[]
  resolved := Array.replicate 124 none
  statics := none }

def pool1 : Array CpInfo := pool [(2, .class_ 4), (1, u "java/lang/Object"), (0, u "<init>"), (0, u "()V"), (0, .integer 55295), (0, .integer 55296), (0, .integer 57343), (0, .integer 57344), (0, .integer 65533), (0, .integer 65534), (0, .integer 65535), (0, .integer 65536), (0, .integer 1114111), (0, .integer 1114112), (2, .integer 2147483648), (0, .integer 2147483647), (0, .methodref 22 23), (0, .class_ 24), (0, .nameAndType 25 26), (0, u "com/example/valbonne/valbonne/schema/XmlChars"), (0, u "isChar"), (0, u "(I)Z"), (0, .methodref 28 29), (0, .class_ 30), (0, .nameAndType 31 26), (0, u "com/example/valbonne/valbonne/schema/XmlCharsIsCharPinLaw"), (0, u "expected"), (2, u "law"), (0, u "(III)Z")] 5

def k1m0 : Method := { name := "<init>", desc := "()V", sig := { parameters := [], returnType := none }, accessFlags := 2, code := none }
def k1c1 : Code := { maxStack := 4, maxLocals := 5, code := code, exceptionTable := #[], attributes := #[] }
def k1m1 : Method := { name := "law", desc := "(III)Z", sig := { parameters := [.int, .int, .int], returnType := some .boolean }, accessFlags := 9, code := some k1c1 }
def k1c2 : Code := { maxStack := 2, maxLocals := 5, code := method_3_code, exceptionTable := #[], attributes := #[] }
def k1m2 : Method := { name := "expected", desc := "(I)Z", sig := { parameters := [.int], returnType := some .boolean }, accessFlags := 10, code := some k1c2 }
/-- com/example/valbonne/valbonne/schema/XmlCharsIsCharPinLaw -/
def k1 : Class := { plain "com/example/valbonne/valbonne/schema/XmlCharsIsCharPinLaw" (some 0) with
  accessFlags := 49
  interfaces := #[]
  cf := some (fileOf pool1 28 #[] #[{ accessFlags := 2, nameIndex := 5, descriptorIndex := 6, attributes := #[] }, { accessFlags := 9, nameIndex := 34, descriptorIndex := 35, attributes := #[] }, { accessFlags := 10, nameIndex := 31, descriptorIndex := 26, attributes := #[] }] 49 2 #[] #[])
  fields := #[]
  methods := #[k1m0, k1m1, k1m2]
  instanceTypes := #[]
  staticTypes := #[]
  resolved := Array.replicate 41 none
  statics := none }

def pool2 : Array CpInfo := pool [(2, .class_ 4), (1, u "java/lang/Object"), (0, u "<init>"), (0, u "()V"), (0, .integer 55295), (0, .integer 57344), (0, .integer 65533), (0, .integer 65536), (0, .integer 1114111), (11, .class_ 25), (1, u "com/example/valbonne/valbonne/schema/XmlChars"), (0, u "isChar"), (0, u "(I)Z")] 34

def k2m0 : Method := { name := "<init>", desc := "()V", sig := { parameters := [], returnType := none }, accessFlags := 2, code := none }
def k2c1 : Code := { maxStack := 2, maxLocals := 1, code := prog_137_method_2_code, exceptionTable := #[], attributes := #[] }
def k2m1 : Method := { name := "isChar", desc := "(I)Z", sig := { parameters := [.int], returnType := some .boolean }, accessFlags := 9, code := some k2c1 }
/-- com/example/valbonne/valbonne/schema/XmlChars -/
def k2 : Class := { plain "com/example/valbonne/valbonne/schema/XmlChars" (some 0) with
  accessFlags := 33
  interfaces := #[]
  cf := some (fileOf pool2 23 #[] #[{ accessFlags := 2, nameIndex := 5, descriptorIndex := 6, attributes := #[] }, { accessFlags := 9, nameIndex := 26, descriptorIndex := 27, attributes := #[] }] 33 2 #[] #[])
  fields := #[]
  methods := #[k2m0, k2m1]
  instanceTypes := #[]
  staticTypes := #[]
  resolved := Array.replicate 62 none
  statics := none }

def pool3 : Array CpInfo := pool [(1, u "java/lang/Cloneable"), (0, .class_ 1), (0, u "java/lang/Object"), (0, .class_ 3)] 3

/-- java/lang/Cloneable -/
def k3 : Class := { plain "java/lang/Cloneable" (some 0) with
  accessFlags := 1537
  interfaces := #[]
  cf := some (fileOf pool3 2 #[] #[] 1537 4 #[] #[])
  fields := #[]
  methods := #[]
  instanceTypes := #[]
  staticTypes := #[]
  resolved := Array.replicate 8 none
  statics := none }

def pool4 : Array CpInfo := pool [(1, u "java/io/Serializable"), (0, .class_ 1), (0, u "java/lang/Object"), (0, .class_ 3)] 3

/-- java/io/Serializable -/
def k4 : Class := { plain "java/io/Serializable" (some 0) with
  accessFlags := 1537
  interfaces := #[]
  cf := some (fileOf pool4 2 #[] #[] 1537 4 #[] #[])
  fields := #[]
  methods := #[]
  instanceTypes := #[]
  staticTypes := #[]
  resolved := Array.replicate 8 none
  statics := none }

/-- the primitive byte -/
def k5 : Class := { plain "byte" none with kind := .primitive 'B', accessFlags := 0x411 }
/-- [B -/
def k6 : Class := { plain "[B" (some 0) with kind := .array 5 .byte, interfaces := #[3, 4], accessFlags := 1041 }

/-- the primitive int -/
def k7 : Class := { plain "int" none with kind := .primitive 'I', accessFlags := 0x411 }
/-- [I -/
def k8 : Class := { plain "[I" (some 0) with kind := .array 7 .int, interfaces := #[3, 4], accessFlags := 1041 }

def heap : Heap := #[]
def classes : Array Class := #[k0, k1, k2, k3, k4, k5, k6, k7, k8]
def interned : List (Array UInt16 × Addr) := []
def slotsUsed : Nat := 0
def theMethod : MethodId := ⟨1, 1⟩
def args0 : Array Value := #[.int 5, .int 5, .int 5]
def aboutOver (below : List Frame) : State where
  vm := { classes := classes, interned := interned.toArray }
  heap := heap
  slotsUsed := slotsUsed
  threads := #[{ frames := .invoking theMethod args0 :: below }]
def below0 : List Frame := [.native { method := ⟨0, 0⟩, args := #[] }]
def about1 : State := aboutOver below0
def p0 : Program := .bare "" "" ""
def e0 : Env := launch0.env 0 0 0
theorem w_frames : about1.frames = Frame.invoking theMethod args0 :: below0 := rfl
set_option maxRecDepth 65536 in
theorem w_args : argsFit about1.vm theMethod args0 = true := by decide +kernel
set_option maxRecDepth 65536 in
theorem w_heap : heapFits about1 = true := by decide +kernel
set_option maxRecDepth 65536 in
theorem w_runnable : about1.curStatus? = some .runnable := by decide +kernel
set_option maxRecDepth 65536 in
theorem w_alone : about1.alone = true := by decide +kernel
set_option maxRecDepth 65536 in
theorem w_named : about1.methodNamed? x = some theMethod := by decide +kernel
set_option maxRecDepth 65536 in
theorem w_hears : about1.hears theMethod below0 = true := by decide +kernel
set_option maxRecDepth 65536 in
theorem w_ripe : about1.ripe theMethod args0 below0 = true := by decide +kernel
theorem w_running : about1.status = .running := rfl
set_option maxRecDepth 65536 in
theorem w_room : about1.hasRoom e0.platform room_1 = true :=
  launch0.hasRoom_least _ room_1 (by decide +kernel) (by decide +kernel) (by decide +kernel) (by decide +kernel) (by decide +kernel) (by decide +kernel)
theorem allAtoms_all (ts : List Jvm.Cond) (a : Array Jvm.Value) (st : Jvm.State) : (allAtoms ts).before a st = ts.all (fun c => c.before a st) := by
  induction ts with
  | nil => rfl
  | cons c t ih =>
    show (Jvm.Cond.and c (allAtoms t)).before a st = _
    rw [Jvm.Cond.before_and, ih, List.all_cons]
def words1 : List Jvm.Cond := Jvm.Cond.code x code maxLocals ret :: tables_1
/-- a 'code' word, met by the world's own term for the bytes: nothing is compared byte by byte -/
theorem code_word {y : MethodName} {bytes : ByteArray} {mx : Nat} {rt : Option FieldType} {a : Array Value} {s : State} {m : MethodId} {meth : Method} {c : Code} (h1 : s.methodNamed? y = some m) (h2 : s.vm.method? m = some meth) (h3 : meth.code = some c) (h4 : c.code = bytes)
    (h5 : (c.maxLocals == mx && c.exceptionTable.isEmpty && decide (c.maxStack ≤ mostOperands) && decide (meth.sig.returnType = rt) && !meth.locks && decide (parseMethodDescriptor y.desc = some meth.sig)) = true) : (Jvm.Cond.code y bytes mx rt).before a s = true := by
  simp only [Bool.and_eq_true, beq_iff_eq, Bool.not_eq_true', decide_eq_true_eq] at h5
  obtain ⟨⟨⟨⟨⟨g1, g2⟩, g3⟩, g4⟩, g5⟩, g6⟩ := h5
  simp [Cond.before, Cond.holds, Cond.value, h1, h2, h3, h4, g1, g2, g3, g4, g5, g6]
def isCode : Jvm.Cond → Bool
  | .code _ _ _ _ => true
  | _ => false
theorem all_split {L : List Jvm.Cond} {P : Jvm.Cond → Bool} (h1 : L.all (fun c => isCode c || P c) = true) (h2 : ∀ c ∈ L.filter isCode, P c = true) : L.all P = true := by
  refine List.all_eq_true.mpr fun c hc => ?_
  have h := List.all_eq_true.mp h1 c hc
  rcases Bool.eq_false_or_eq_true (isCode c) with hi | hi
  · exact h2 c (List.mem_filter.mpr ⟨hc, hi⟩)
  · simpa [hi] using h
set_option maxRecDepth 65536 in
theorem w_c0 : (Jvm.Cond.code x code maxLocals ret).before args0 about1 = true := code_word (m := ⟨1, 1⟩) (meth := k1m1) (c := k1c1) (by decide +kernel) rfl rfl rfl (by decide +kernel)
set_option maxRecDepth 65536 in
theorem w_c1 : (Jvm.Cond.code ({ cls := "com/example/valbonne/valbonne/schema/XmlChars", name := "isChar", desc := "(I)Z" } : Jvm.MethodName) prog_137_method_2_code (1 : Nat) (Option.some Jvm.ClassFile.FieldType.boolean)).before args0 about1 = true := code_word (m := ⟨2, 1⟩) (meth := k2m1) (c := k2c1) (by decide +kernel) rfl rfl rfl (by decide +kernel)
set_option maxRecDepth 65536 in
theorem w_c2 : (Jvm.Cond.code ({ cls := "com/example/valbonne/valbonne/schema/XmlCharsIsCharPinLaw", name := "expected", desc := "(I)Z" } : Jvm.MethodName) method_3_code (5 : Nat) (Option.some Jvm.ClassFile.FieldType.boolean)).before args0 about1 = true := code_word (m := ⟨1, 2⟩) (meth := k1m2) (c := k1c2) (by decide +kernel) rfl rfl rfl (by decide +kernel)
def codes1 : List Jvm.Cond := [Jvm.Cond.code x code maxLocals ret, Jvm.Cond.code ({ cls := "com/example/valbonne/valbonne/schema/XmlChars", name := "isChar", desc := "(I)Z" } : Jvm.MethodName) prog_137_method_2_code (1 : Nat) (Option.some Jvm.ClassFile.FieldType.boolean), Jvm.Cond.code ({ cls := "com/example/valbonne/valbonne/schema/XmlCharsIsCharPinLaw", name := "expected", desc := "(I)Z" } : Jvm.MethodName) method_3_code (5 : Nat) (Option.some Jvm.ClassFile.FieldType.boolean)]
set_option maxRecDepth 65536 in
theorem codes_eq : words1.filter isCode = codes1 := rfl
theorem w_codes : ∀ c ∈ words1.filter isCode, c.before args0 about1 = true := by
  rw [codes_eq]
  intro c hc
  simp only [codes1, List.mem_cons, List.not_mem_nil, or_false] at hc
  rcases hc with rfl | rfl | rfl
  · exact w_c0
  · exact w_c1
  · exact w_c2
set_option maxRecDepth 65536 in
theorem w_t1 : (words1.take 24).all (fun c => isCode c || c.before args0 about1) = true := by decide +kernel
set_option maxRecDepth 65536 in
theorem w_t2 : (words1.drop 24).all (fun c => isCode c || c.before args0 about1) = true := by decide +kernel
theorem w_tables : (allAtoms (Jvm.Cond.code x code maxLocals ret :: tables_1)).before args0 about1 = true := by
  rw [allAtoms_all]
  show words1.all (fun c => c.before args0 about1) = true
  refine all_split ?_ w_codes
  rw [← List.take_append_drop 24 words1, List.all_append, w_t1, w_t2]
  rfl
set_option maxRecDepth 65536 in
theorem w_case : (Jvm.Cond.and given_1 narrow_1).before args0 about1 = true := by decide +kernel
theorem w_applies : (headSpec (Jvm.Cond.code x code maxLocals ret :: tables_1) room_1).applies x e0.platform about1 = true :=
  (Spec.applies_iff w_frames).mpr ⟨w_running, w_runnable, w_alone, w_named, w_hears, w_ripe, w_room, w_tables⟩
theorem atStart : AtStart classFile x code maxLocals ret World_1 tables_1 room_1 Calls_1 rest_1 Pre_1 launch0 p0 e0 about1 theMethod args0 below0 :=
  ⟨lists_1, trivial, launch0.admits_env _ _ _, launch0.least_env, fairChoices_fair.cas, fairChoices_fair.clock, w_frames, w_args, w_heap, w_applies, trivial, trivial, w_case⟩
end start1
theorem witness_1 : WitnessClaimed_1 := ⟨start1.p0, start1.e0, start1.about1, start1.theMethod, start1.args0, start1.below0, start1.atStart⟩
end Jvm.Pilot.@@N@@
