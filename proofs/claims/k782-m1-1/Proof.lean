import JvmDerived
import JvmDerived.Pilot.@@N@@Statement
import JvmDerived.Pilot.@@N@@Code
set_option linter.unusedVariables false
set_option linter.unusedSimpArgs false
namespace Jvm.Pilot.@@N@@
open Jvm Jvm.ClassFile Sem Op Lib Jvm.Free Jvm.Stand Jvm.LawKit Jvm.RoadKit Bundle Jvm.Pilot.@@N@@.Jvm.D
section Own
variable {p : Program} {l : Launch} {e : Env} {R : Room} {s : State} {m : MethodId} {args : Array Value} {below : List Frame} {meth : Method} {c : Code} {T T' : State} {locs : List Loc} {cells slots : Nat} {QQ : Option Value → Heap → List Loc → Prop} {kc ks : Nat} {f f' : JFrame}
/-- from here the run comes to the method's return, with what QQ says -/
def own_Goes (p : Program) (e : Env) (below : List Frame) (s : State) (QQ : Option Value → Heap → List Loc → Prop) (kc ks : Nat) (T : State) (f : JFrame) : Prop :=
  ∃ s₂ o, Steps p.tables e below (T.setTop f) s₂ ∧ s₂.status = .running ∧ Ended s₂ below o ∧ ∃ v L, o = .returned v ∧ QQ v s₂.heap L ∧ FrameEnd s o s₂ L kc ks
theorem own_step (st : ∀ target, Steps p.tables e below (T'.setTop f') target → Steps p.tables e below (T.setTop f) target) (h : own_Goes p e below s QQ kc ks T' f') : own_Goes p e below s QQ kc ks T f := by
  obtain ⟨s₂, o, h1, r⟩ := h
  exact ⟨s₂, o, st _ h1, r⟩
theorem own_jump (st : Steps p.tables e below (T.setTop f) (T'.setTop f')) (h : own_Goes p e below s QQ kc ks T' f') : own_Goes p e below s QQ kc ks T f := by
  obtain ⟨s₂, o, h1, r⟩ := h
  exact ⟨s₂, o, st.trans h1, r⟩
theorem own_out {v : Option Value} (X : Stand p l e R s m args below meth c T locs cells slots) (hlk : meth.locks = false) (hv : meth.sig.returnType = none → v = none)
    (st : ∀ fs, (∀ (f : JFrame) (acts : List Action), f.method = m → f.locked = none → f.entered = [] → (doReturn e (T.setTop f) acts v).1 = T.setFrames fs) → Steps p.tables e below (T.setTop f) (T.setFrames fs)) (hc : cells ≤ kc) (hs : slots ≤ ks) (hq : QQ v T.heap locs) : own_Goes p e below s QQ kc ks T f := by
  obtain ⟨fs, hr, hrun, hended, hW, hsame⟩ := X.leave (v := v) hv hlk
  exact ⟨_, _, st fs hr, hrun, hended, v, locs, rfl, hq, ⟨_, rfl⟩, hW, hsame.mono hc hs⟩
theorem own_staKeep {Z : State} {h h' : Heap} {C n d : String} {v : Value} {ws : List Addr} (F : Sta Z h C n d v) (K : Keep h h' ws) (q : ∀ x ∈ ws, ∃ cell : Cell, h[x]? = some cell ∧ cell.vm.isStatics = false) : Sta Z h' C n d v := by
  obtain ⟨cf, i, k, f, st, cell, h1, h2, h3, h4, h5, h6, h7⟩ := F
  refine ⟨cf, i, k, f, st, cell, h1, h2, h3, h4, K.2.1 st cell h5 (fun z => ?_), h6, h7⟩
  obtain ⟨c', g1, g2⟩ := q st z
  rw [h5] at g1
  cases g1
  rw [h6] at g2
  cases g2
theorem own_exaNS {Z : State} {h : Heap} {a : Addr} {C : String} (F : Exa Z h a C) : ∃ cell : Cell, h[a]? = some cell ∧ cell.vm.isStatics = false := by
  obtain ⟨cell, k, h1, -, -, h4, -⟩ := F
  exact ⟨cell, h1, h4⟩
end Own
section OwnW
variable {p : Program} {l : Launch} {e : Env} {R : Room} {s : State} {m : MethodId} {args : Array Value} {below : List Frame} {meth : Method} {c : Code} {T T' : State} {locs : List Loc} {cells slots : Nat} {QQ : Option Value → Heap → List Loc → Prop} {kc ks : Nat} {f f' : JFrame}
def own_GoesW (p : Program) (e : Env) (below : List Frame) (s : State) (QQ : Option Value → Heap → List Loc → Prop) (kc ks : Nat) (T : State) (f : JFrame) : Prop :=
  ∃ s₂ o, Steps p.tables e below (T.setTop f) s₂ ∧ s₂.status = .running ∧ Ended s₂ below o ∧ ∃ v L, o = .returned v ∧ QQ v s₂.heap L ∧ ReturnedEndW s o s₂ L kc ks
theorem own_stepW (st : ∀ target, Steps p.tables e below (T'.setTop f') target → Steps p.tables e below (T.setTop f) target) (h : own_GoesW p e below s QQ kc ks T' f') : own_GoesW p e below s QQ kc ks T f := by
  obtain ⟨s₂, o, h1, r⟩ := h
  exact ⟨s₂, o, st _ h1, r⟩
theorem own_jumpW (st : Steps p.tables e below (T.setTop f) (T'.setTop f')) (h : own_GoesW p e below s QQ kc ks T' f') : own_GoesW p e below s QQ kc ks T f := by
  obtain ⟨s₂, o, h1, r⟩ := h
  exact ⟨s₂, o, st.trans h1, r⟩
theorem own_outW {vm : Vm} {v : Option Value} (X : Stand p l e R (s.setVm vm) m args below meth c T locs cells slots) {n : Nat} (hS : s.Since vm n) (hn : n ≤ T.heap.size) (hlk : meth.locks = false) (hv : meth.sig.returnType = none → v = none)
    (st : ∀ fs, (∀ (f : JFrame) (acts : List Action), f.method = m → f.locked = none → f.entered = [] → (doReturn e (T.setTop f) acts v).1 = T.setFrames fs) → Steps p.tables e below (T.setTop f) (T.setFrames fs)) (hc : cells ≤ kc) (hs : slots ≤ ks) (hq : QQ v T.heap locs) : own_GoesW p e below s QQ kc ks T f := by
  obtain ⟨fs, hr, hrun, hended, h1, h2, h3, h4⟩ := X.leaveW hS hn (v := v) hv hlk
  exact ⟨_, _, st fs hr, hrun, hended, v, locs, rfl, hq, ⟨_, rfl⟩, h2, h3, h4.mono hc hs⟩
end OwnW
def own_hx_45 (p1 : Int32) : Int32 := (if p1 < (97 : Int32) then (-1 : Int32) else (if (102 : Int32) < p1 then (-1 : Int32) else ((p1 - (97 : Int32)) + (10 : Int32))))
def own_hx_22 (p1 : Int32) : Int32 := (if p1 < (65 : Int32) then (own_hx_45 p1) else (if (70 : Int32) < p1 then (own_hx_45 p1) else ((p1 - (65 : Int32)) + (10 : Int32))))
def own_hx_0 (p1 : Int32) : Int32 := (if p1 < (48 : Int32) then (own_hx_22 p1) else (if (57 : Int32) < p1 then (own_hx_22 p1) else (p1 - (48 : Int32))))
theorem d1_0 : decode prog_11_method_3_code 0 = .ok (.iconst (-1), 1) := by decide +kernel
theorem d1_1 : decode prog_11_method_3_code 1 = .ok (.istore_n 1, 1) := by decide +kernel
theorem d1_2 : decode prog_11_method_3_code 2 = .ok (.iload_n 0, 1) := by decide +kernel
theorem d1_3 : decode prog_11_method_3_code 3 = .ok (.bipush 48, 2) := by decide +kernel
theorem d1_5 : decode prog_11_method_3_code 5 = .ok (.if_icmp .lt 17, 3) := by decide +kernel
theorem d1_8 : decode prog_11_method_3_code 8 = .ok (.iload_n 0, 1) := by decide +kernel
theorem d1_9 : decode prog_11_method_3_code 9 = .ok (.bipush 57, 2) := by decide +kernel
theorem d1_11 : decode prog_11_method_3_code 11 = .ok (.if_icmp .gt 11, 3) := by decide +kernel
theorem d1_14 : decode prog_11_method_3_code 14 = .ok (.iload_n 0, 1) := by decide +kernel
theorem d1_15 : decode prog_11_method_3_code 15 = .ok (.bipush 48, 2) := by decide +kernel
theorem d1_17 : decode prog_11_method_3_code 17 = .ok (.isub, 1) := by decide +kernel
theorem d1_18 : decode prog_11_method_3_code 18 = .ok (.istore_n 1, 1) := by decide +kernel
theorem d1_19 : decode prog_11_method_3_code 19 = .ok (.goto 46, 3) := by decide +kernel
theorem d1_22 : decode prog_11_method_3_code 22 = .ok (.iload_n 0, 1) := by decide +kernel
theorem d1_23 : decode prog_11_method_3_code 23 = .ok (.bipush 65, 2) := by decide +kernel
theorem d1_25 : decode prog_11_method_3_code 25 = .ok (.if_icmp .lt 20, 3) := by decide +kernel
theorem d1_28 : decode prog_11_method_3_code 28 = .ok (.iload_n 0, 1) := by decide +kernel
theorem d1_29 : decode prog_11_method_3_code 29 = .ok (.bipush 70, 2) := by decide +kernel
theorem d1_31 : decode prog_11_method_3_code 31 = .ok (.if_icmp .gt 14, 3) := by decide +kernel
theorem d1_34 : decode prog_11_method_3_code 34 = .ok (.iload_n 0, 1) := by decide +kernel
theorem d1_35 : decode prog_11_method_3_code 35 = .ok (.bipush 65, 2) := by decide +kernel
theorem d1_37 : decode prog_11_method_3_code 37 = .ok (.isub, 1) := by decide +kernel
theorem d1_38 : decode prog_11_method_3_code 38 = .ok (.bipush 10, 2) := by decide +kernel
theorem d1_40 : decode prog_11_method_3_code 40 = .ok (.iadd, 1) := by decide +kernel
theorem d1_41 : decode prog_11_method_3_code 41 = .ok (.istore_n 1, 1) := by decide +kernel
theorem d1_42 : decode prog_11_method_3_code 42 = .ok (.goto 23, 3) := by decide +kernel
theorem d1_45 : decode prog_11_method_3_code 45 = .ok (.iload_n 0, 1) := by decide +kernel
theorem d1_46 : decode prog_11_method_3_code 46 = .ok (.bipush 97, 2) := by decide +kernel
theorem d1_48 : decode prog_11_method_3_code 48 = .ok (.if_icmp .lt 17, 3) := by decide +kernel
theorem d1_51 : decode prog_11_method_3_code 51 = .ok (.iload_n 0, 1) := by decide +kernel
theorem d1_52 : decode prog_11_method_3_code 52 = .ok (.bipush 102, 2) := by decide +kernel
theorem d1_54 : decode prog_11_method_3_code 54 = .ok (.if_icmp .gt 11, 3) := by decide +kernel
theorem d1_57 : decode prog_11_method_3_code 57 = .ok (.iload_n 0, 1) := by decide +kernel
theorem d1_58 : decode prog_11_method_3_code 58 = .ok (.bipush 97, 2) := by decide +kernel
theorem d1_60 : decode prog_11_method_3_code 60 = .ok (.isub, 1) := by decide +kernel
theorem d1_61 : decode prog_11_method_3_code 61 = .ok (.bipush 10, 2) := by decide +kernel
theorem d1_63 : decode prog_11_method_3_code 63 = .ok (.iadd, 1) := by decide +kernel
theorem d1_64 : decode prog_11_method_3_code 64 = .ok (.istore_n 1, 1) := by decide +kernel
theorem d1_65 : decode prog_11_method_3_code 65 = .ok (.iload_n 1, 1) := by decide +kernel
theorem d1_66 : decode prog_11_method_3_code 66 = .ok (.ireturn, 1) := by decide +kernel
theorem pn_0 : plainName "com/example/fpi_to_urn/fpitourn/PercentEscapes" = true := by first | (simp [plainName, overriddenIn]; done) | decide +kernel
theorem ef_1 (m : MethodId) (x0 : Int32) : entryFrame m #[(.int x0)] 2 = mkF m 0 #[.val (.int x0), .unset] [] := by first | (simp [entryFrame, mkF, argsToLocals, Value.category]; done) | rfl
def Q1 (Z : State) (p1 : Int32) (h0 : Heap) (n0 : Nat) (v : Option Value) (h : Heap) (L : List Loc) : Prop := v = some (.int (own_hx_0 p1)) ∧ L = [] ∧ h = h0
abbrev R1 : Room := { frames := 0, cells := 0, slots := 0, locals := 0 }
set_option maxRecDepth 65536 in
set_option maxHeartbeats 40000000 in
theorem rm1 (l : Launch) (Z : State) (a0 : Array Value) (hw : ∀ d ∈ tables_1, d.before a0 Z = true) (ws : List Jvm.Cond) (p1 : Int32) (h0 : Heap) (n0 : Nat) (Z0 : n0 ≤ h0.size)  :
    MetFree l (⟨"com/example/fpi_to_urn/fpitourn/PercentEscapes", "hexValue", "(C)I"⟩ : MethodName) (head1 (Jvm.Cond.code (⟨"com/example/fpi_to_urn/fpitourn/PercentEscapes", "hexValue", "(C)I"⟩ : MethodName) prog_11_method_3_code 2 (some .int) :: ws) R1) (fun a U => a = #[(.int p1)] ∧ Z.Warmed39 U.vm ∧ U.heap = h0) (fun _ _ _ _ _ => True) (fun _ U o U' => ∃ v L, o = .returned v ∧ Q1 Z p1 h0 n0 v U'.heap L ∧ FrameEnd U o U' L R1.cells R1.slots) := by
  refine MetFree.of_bodySF (plainFor_of_name pn_0) hisR ?_
  intro p e s m args below meth c s₁ Bd hml0 hP hK
  obtain ⟨rfl, hZ, hh⟩ := hP
  have hx := Bd.exec
  have hby := Bd.bytes
  have hlk : meth.locks = false := BodyLoose.notSynchronized Bd
  have hml : c.maxLocals = 2 := hml0
  have hown : s.vm.findClass "com/example/fpi_to_urn/fpitourn/PercentEscapes" = some m.cls := findClass_of_methodNamed Bd.named
  have hnm := (name_of_methodNamed Bd.named Bd.method).1
  have X0 : Stand p l e R1 s m #[(.int p1)] below meth c s₁ [] 0 0 := Stand.of_body Bd
  have e0 : s₁.heap = h0 := by rw [← hh, Bd.state]; rfl
  have N0 := Fr.nil n0
  show own_Goes p e below s (Q1 Z p1 h0 n0) R1.cells R1.slots s₁ (entryFrame m #[(.int p1)] 2)
  rw [ef_1 m p1]
  have K_45 : ∀ (T_45 : State), Stand p l e R1 s m #[(.int p1)] below meth c T_45 [] 0 0 → T_45.heap = h0 → own_hx_0 p1 = own_hx_45 p1 → own_Goes p e below s (Q1 Z p1 h0 n0) R1.cells R1.slots T_45 (mkF m 45 #[.val (.int p1), .val (.int (-1 : Int32))] []) := by
    intro T_45 X_45 e_45 hq_45
    refine own_step (f' := (mkF m 46 #[.val (.int p1), .val (.int (-1 : Int32))] [(.int p1)])) (fun _ k => XS.iloadN X_45.here hx rfl (hb hby d1_45) rfl k) ?_
    refine own_step (f' := (mkF m 48 #[.val (.int p1), .val (.int (-1 : Int32))] [(.int (97 : Int32)), (.int p1)])) (fun _ k => XS.bipush X_45.here hx rfl (hb hby d1_46) k) ?_
    by_cases hc48_1 : p1 < (97 : Int32)
    · refine own_step (f' := (mkF m 65 #[.val (.int p1), .val (.int (-1 : Int32))] [])) (fun _ k => XS.icmpYes X_45.here hx rfl (pc0 := 48) (pc' := 65) rfl (hb hby d1_48) rfl (tlt hc48_1).1 (by decide) (by decide) k) ?_
      refine own_step (f' := (mkF m 66 #[.val (.int p1), .val (.int (-1 : Int32))] [(.int (-1 : Int32))])) (fun _ k => XS.iloadN X_45.here hx rfl (hb hby d1_65) rfl k) ?_
      refine own_out (v := some (.int (-1 : Int32))) X_45 hlk (fun h => by rw [Bd.returns] at h; cases h) (fun fs hr => retOut X_45 hx Bd.returns rfl (Or.inl ⟨rfl, Or.inl rfl, _, rfl⟩) (hb hby d1_66) hr) (by decide) (by decide) ?_
      rw [e_45]
      exact ⟨(by rw [hq_45, own_hx_45, if_pos hc48_1]), rfl, rfl⟩
    · refine own_step (f' := (mkF m 51 #[.val (.int p1), .val (.int (-1 : Int32))] [])) (fun _ k => XS.icmpNo X_45.here hx rfl (hb hby d1_48) rfl (flt hc48_1).1 k) ?_
      refine own_step (f' := (mkF m 52 #[.val (.int p1), .val (.int (-1 : Int32))] [(.int p1)])) (fun _ k => XS.iloadN X_45.here hx rfl (hb hby d1_51) rfl k) ?_
      refine own_step (f' := (mkF m 54 #[.val (.int p1), .val (.int (-1 : Int32))] [(.int (102 : Int32)), (.int p1)])) (fun _ k => XS.bipush X_45.here hx rfl (hb hby d1_52) k) ?_
      by_cases hc54_2 : (102 : Int32) < p1
      · refine own_step (f' := (mkF m 65 #[.val (.int p1), .val (.int (-1 : Int32))] [])) (fun _ k => XS.icmpYes X_45.here hx rfl (pc0 := 54) (pc' := 65) rfl (hb hby d1_54) rfl (tlt hc54_2).2.2.1 (by decide) (by decide) k) ?_
        refine own_step (f' := (mkF m 66 #[.val (.int p1), .val (.int (-1 : Int32))] [(.int (-1 : Int32))])) (fun _ k => XS.iloadN X_45.here hx rfl (hb hby d1_65) rfl k) ?_
        refine own_out (v := some (.int (-1 : Int32))) X_45 hlk (fun h => by rw [Bd.returns] at h; cases h) (fun fs hr => retOut X_45 hx Bd.returns rfl (Or.inl ⟨rfl, Or.inl rfl, _, rfl⟩) (hb hby d1_66) hr) (by decide) (by decide) ?_
        rw [e_45]
        exact ⟨(by rw [hq_45, own_hx_45, if_neg hc48_1, if_pos hc54_2]), rfl, rfl⟩
      · refine own_step (f' := (mkF m 57 #[.val (.int p1), .val (.int (-1 : Int32))] [])) (fun _ k => XS.icmpNo X_45.here hx rfl (hb hby d1_54) rfl (flt hc54_2).2.2.1 k) ?_
        refine own_step (f' := (mkF m 58 #[.val (.int p1), .val (.int (-1 : Int32))] [(.int p1)])) (fun _ k => XS.iloadN X_45.here hx rfl (hb hby d1_57) rfl k) ?_
        refine own_step (f' := (mkF m 60 #[.val (.int p1), .val (.int (-1 : Int32))] [(.int (97 : Int32)), (.int p1)])) (fun _ k => XS.bipush X_45.here hx rfl (hb hby d1_58) k) ?_
        refine own_step (f' := (mkF m 61 #[.val (.int p1), .val (.int (-1 : Int32))] [(.int (p1 - (97 : Int32)))])) (fun _ k => XS.isub X_45.here hx rfl (hb hby d1_60) rfl k) ?_
        refine own_step (f' := (mkF m 63 #[.val (.int p1), .val (.int (-1 : Int32))] [(.int (10 : Int32)), (.int (p1 - (97 : Int32)))])) (fun _ k => XS.bipush X_45.here hx rfl (hb hby d1_61) k) ?_
        refine own_step (f' := (mkF m 64 #[.val (.int p1), .val (.int (-1 : Int32))] [(.int ((p1 - (97 : Int32)) + (10 : Int32)))])) (fun _ k => XS.iadd X_45.here hx rfl (hb hby d1_63) rfl k) ?_
        refine own_step (f' := (mkF m 65 #[.val (.int p1), .val (.int ((p1 - (97 : Int32)) + (10 : Int32)))] [])) (fun _ k => XS.istoreN X_45.here hx rfl (hb hby d1_64) rfl (l' := #[.val (.int p1), .val (.int ((p1 - (97 : Int32)) + (10 : Int32)))]) rfl k) ?_
        refine own_step (f' := (mkF m 66 #[.val (.int p1), .val (.int ((p1 - (97 : Int32)) + (10 : Int32)))] [(.int ((p1 - (97 : Int32)) + (10 : Int32)))])) (fun _ k => XS.iloadN X_45.here hx rfl (hb hby d1_65) rfl k) ?_
        refine own_out (v := some (.int ((p1 - (97 : Int32)) + (10 : Int32)))) X_45 hlk (fun h => by rw [Bd.returns] at h; cases h) (fun fs hr => retOut X_45 hx Bd.returns rfl (Or.inl ⟨rfl, Or.inl rfl, _, rfl⟩) (hb hby d1_66) hr) (by decide) (by decide) ?_
        rw [e_45]
        exact ⟨(by rw [hq_45, own_hx_45, if_neg hc48_1, if_neg hc54_2]), rfl, rfl⟩
  have K_22 : ∀ (T_22 : State), Stand p l e R1 s m #[(.int p1)] below meth c T_22 [] 0 0 → T_22.heap = h0 → own_hx_0 p1 = own_hx_22 p1 → own_Goes p e below s (Q1 Z p1 h0 n0) R1.cells R1.slots T_22 (mkF m 22 #[.val (.int p1), .val (.int (-1 : Int32))] []) := by
    intro T_22 X_22 e_22 hq_22
    refine own_step (f' := (mkF m 23 #[.val (.int p1), .val (.int (-1 : Int32))] [(.int p1)])) (fun _ k => XS.iloadN X_22.here hx rfl (hb hby d1_22) rfl k) ?_
    refine own_step (f' := (mkF m 25 #[.val (.int p1), .val (.int (-1 : Int32))] [(.int (65 : Int32)), (.int p1)])) (fun _ k => XS.bipush X_22.here hx rfl (hb hby d1_23) k) ?_
    by_cases hc25_3 : p1 < (65 : Int32)
    · refine own_step (f' := (mkF m 45 #[.val (.int p1), .val (.int (-1 : Int32))] [])) (fun _ k => XS.icmpYes X_22.here hx rfl (pc0 := 25) (pc' := 45) rfl (hb hby d1_25) rfl (tlt hc25_3).1 (by decide) (by decide) k) ?_
      exact K_45 _ X_22 e_22 (by rw [hq_22, own_hx_22, if_pos hc25_3])
    · refine own_step (f' := (mkF m 28 #[.val (.int p1), .val (.int (-1 : Int32))] [])) (fun _ k => XS.icmpNo X_22.here hx rfl (hb hby d1_25) rfl (flt hc25_3).1 k) ?_
      refine own_step (f' := (mkF m 29 #[.val (.int p1), .val (.int (-1 : Int32))] [(.int p1)])) (fun _ k => XS.iloadN X_22.here hx rfl (hb hby d1_28) rfl k) ?_
      refine own_step (f' := (mkF m 31 #[.val (.int p1), .val (.int (-1 : Int32))] [(.int (70 : Int32)), (.int p1)])) (fun _ k => XS.bipush X_22.here hx rfl (hb hby d1_29) k) ?_
      by_cases hc31_4 : (70 : Int32) < p1
      · refine own_step (f' := (mkF m 45 #[.val (.int p1), .val (.int (-1 : Int32))] [])) (fun _ k => XS.icmpYes X_22.here hx rfl (pc0 := 31) (pc' := 45) rfl (hb hby d1_31) rfl (tlt hc31_4).2.2.1 (by decide) (by decide) k) ?_
        exact K_45 _ X_22 e_22 (by rw [hq_22, own_hx_22, if_neg hc25_3, if_pos hc31_4])
      · refine own_step (f' := (mkF m 34 #[.val (.int p1), .val (.int (-1 : Int32))] [])) (fun _ k => XS.icmpNo X_22.here hx rfl (hb hby d1_31) rfl (flt hc31_4).2.2.1 k) ?_
        refine own_step (f' := (mkF m 35 #[.val (.int p1), .val (.int (-1 : Int32))] [(.int p1)])) (fun _ k => XS.iloadN X_22.here hx rfl (hb hby d1_34) rfl k) ?_
        refine own_step (f' := (mkF m 37 #[.val (.int p1), .val (.int (-1 : Int32))] [(.int (65 : Int32)), (.int p1)])) (fun _ k => XS.bipush X_22.here hx rfl (hb hby d1_35) k) ?_
        refine own_step (f' := (mkF m 38 #[.val (.int p1), .val (.int (-1 : Int32))] [(.int (p1 - (65 : Int32)))])) (fun _ k => XS.isub X_22.here hx rfl (hb hby d1_37) rfl k) ?_
        refine own_step (f' := (mkF m 40 #[.val (.int p1), .val (.int (-1 : Int32))] [(.int (10 : Int32)), (.int (p1 - (65 : Int32)))])) (fun _ k => XS.bipush X_22.here hx rfl (hb hby d1_38) k) ?_
        refine own_step (f' := (mkF m 41 #[.val (.int p1), .val (.int (-1 : Int32))] [(.int ((p1 - (65 : Int32)) + (10 : Int32)))])) (fun _ k => XS.iadd X_22.here hx rfl (hb hby d1_40) rfl k) ?_
        refine own_step (f' := (mkF m 42 #[.val (.int p1), .val (.int ((p1 - (65 : Int32)) + (10 : Int32)))] [])) (fun _ k => XS.istoreN X_22.here hx rfl (hb hby d1_41) rfl (l' := #[.val (.int p1), .val (.int ((p1 - (65 : Int32)) + (10 : Int32)))]) rfl k) ?_
        refine own_step (f' := (mkF m 65 #[.val (.int p1), .val (.int ((p1 - (65 : Int32)) + (10 : Int32)))] [])) (fun _ k => XS.goto X_22.here hx rfl (pc0 := 42) (pc' := 65) rfl (hb hby d1_42) (by decide) (by decide) k) ?_
        refine own_step (f' := (mkF m 66 #[.val (.int p1), .val (.int ((p1 - (65 : Int32)) + (10 : Int32)))] [(.int ((p1 - (65 : Int32)) + (10 : Int32)))])) (fun _ k => XS.iloadN X_22.here hx rfl (hb hby d1_65) rfl k) ?_
        refine own_out (v := some (.int ((p1 - (65 : Int32)) + (10 : Int32)))) X_22 hlk (fun h => by rw [Bd.returns] at h; cases h) (fun fs hr => retOut X_22 hx Bd.returns rfl (Or.inl ⟨rfl, Or.inl rfl, _, rfl⟩) (hb hby d1_66) hr) (by decide) (by decide) ?_
        rw [e_22]
        exact ⟨(by rw [hq_22, own_hx_22, if_neg hc25_3, if_neg hc31_4]), rfl, rfl⟩
  refine own_step (f' := (mkF m 1 #[.val (.int p1), .unset] [(.int (-1 : Int32))])) (fun _ k => XS.iconst X0.here hx rfl (hb hby d1_0) k) ?_
  refine own_step (f' := (mkF m 2 #[.val (.int p1), .val (.int (-1 : Int32))] [])) (fun _ k => XS.istoreN X0.here hx rfl (hb hby d1_1) rfl (l' := #[.val (.int p1), .val (.int (-1 : Int32))]) rfl k) ?_
  refine own_step (f' := (mkF m 3 #[.val (.int p1), .val (.int (-1 : Int32))] [(.int p1)])) (fun _ k => XS.iloadN X0.here hx rfl (hb hby d1_2) rfl k) ?_
  refine own_step (f' := (mkF m 5 #[.val (.int p1), .val (.int (-1 : Int32))] [(.int (48 : Int32)), (.int p1)])) (fun _ k => XS.bipush X0.here hx rfl (hb hby d1_3) k) ?_
  by_cases hc5_5 : p1 < (48 : Int32)
  · refine own_step (f' := (mkF m 22 #[.val (.int p1), .val (.int (-1 : Int32))] [])) (fun _ k => XS.icmpYes X0.here hx rfl (pc0 := 5) (pc' := 22) rfl (hb hby d1_5) rfl (tlt hc5_5).1 (by decide) (by decide) k) ?_
    exact K_22 _ X0 e0 (by rw [own_hx_0, if_pos hc5_5])
  · refine own_step (f' := (mkF m 8 #[.val (.int p1), .val (.int (-1 : Int32))] [])) (fun _ k => XS.icmpNo X0.here hx rfl (hb hby d1_5) rfl (flt hc5_5).1 k) ?_
    refine own_step (f' := (mkF m 9 #[.val (.int p1), .val (.int (-1 : Int32))] [(.int p1)])) (fun _ k => XS.iloadN X0.here hx rfl (hb hby d1_8) rfl k) ?_
    refine own_step (f' := (mkF m 11 #[.val (.int p1), .val (.int (-1 : Int32))] [(.int (57 : Int32)), (.int p1)])) (fun _ k => XS.bipush X0.here hx rfl (hb hby d1_9) k) ?_
    by_cases hc11_6 : (57 : Int32) < p1
    · refine own_step (f' := (mkF m 22 #[.val (.int p1), .val (.int (-1 : Int32))] [])) (fun _ k => XS.icmpYes X0.here hx rfl (pc0 := 11) (pc' := 22) rfl (hb hby d1_11) rfl (tlt hc11_6).2.2.1 (by decide) (by decide) k) ?_
      exact K_22 _ X0 e0 (by rw [own_hx_0, if_neg hc5_5, if_pos hc11_6])
    · refine own_step (f' := (mkF m 14 #[.val (.int p1), .val (.int (-1 : Int32))] [])) (fun _ k => XS.icmpNo X0.here hx rfl (hb hby d1_11) rfl (flt hc11_6).2.2.1 k) ?_
      refine own_step (f' := (mkF m 15 #[.val (.int p1), .val (.int (-1 : Int32))] [(.int p1)])) (fun _ k => XS.iloadN X0.here hx rfl (hb hby d1_14) rfl k) ?_
      refine own_step (f' := (mkF m 17 #[.val (.int p1), .val (.int (-1 : Int32))] [(.int (48 : Int32)), (.int p1)])) (fun _ k => XS.bipush X0.here hx rfl (hb hby d1_15) k) ?_
      refine own_step (f' := (mkF m 18 #[.val (.int p1), .val (.int (-1 : Int32))] [(.int (p1 - (48 : Int32)))])) (fun _ k => XS.isub X0.here hx rfl (hb hby d1_17) rfl k) ?_
      refine own_step (f' := (mkF m 19 #[.val (.int p1), .val (.int (p1 - (48 : Int32)))] [])) (fun _ k => XS.istoreN X0.here hx rfl (hb hby d1_18) rfl (l' := #[.val (.int p1), .val (.int (p1 - (48 : Int32)))]) rfl k) ?_
      refine own_step (f' := (mkF m 65 #[.val (.int p1), .val (.int (p1 - (48 : Int32)))] [])) (fun _ k => XS.goto X0.here hx rfl (pc0 := 19) (pc' := 65) rfl (hb hby d1_19) (by decide) (by decide) k) ?_
      refine own_step (f' := (mkF m 66 #[.val (.int p1), .val (.int (p1 - (48 : Int32)))] [(.int (p1 - (48 : Int32)))])) (fun _ k => XS.iloadN X0.here hx rfl (hb hby d1_65) rfl k) ?_
      refine own_out (v := some (.int (p1 - (48 : Int32)))) X0 hlk (fun h => by rw [Bd.returns] at h; cases h) (fun fs hr => retOut X0 hx Bd.returns rfl (Or.inl ⟨rfl, Or.inl rfl, _, rfl⟩) (hb hby d1_66) hr) (by decide) (by decide) ?_
      rw [e0]
      exact ⟨(by rw [own_hx_0, if_neg hc5_5, if_neg hc11_6]), rfl, rfl⟩
theorem d3_0 : decode jdk_42_method_154_code 0 = .ok (.getstatic 38, 3) := by decide +kernel
theorem d3_3 : decode jdk_42_method_154_code 3 = .ok (.ifCond .eq 14, 3) := by decide +kernel
theorem d3_6 : decode jdk_42_method_154_code 6 = .ok (.aload_n 0, 1) := by decide +kernel
theorem d3_7 : decode jdk_42_method_154_code 7 = .ok (.getfield 15, 3) := by decide +kernel
theorem d3_10 : decode jdk_42_method_154_code 10 = .ok (.ifCond .ne 7, 3) := by decide +kernel
theorem d3_13 : decode jdk_42_method_154_code 13 = .ok (.iconst 1, 1) := by decide +kernel
theorem d3_14 : decode jdk_42_method_154_code 14 = .ok (.goto 4, 3) := by decide +kernel
theorem d3_18 : decode jdk_42_method_154_code 18 = .ok (.ireturn, 1) := by decide +kernel
theorem pn_1 : plainName "java/lang/String" = true := by first | (simp [plainName, overriddenIn]; done) | decide +kernel
theorem ef_3 (m : MethodId) (x0 : Addr) : entryFrame m #[(.ref x0)] 1 = mkF m 0 #[.val (.ref x0)] [] := by first | (simp [entryFrame, mkF, argsToLocals, Value.category]; done) | rfl
def Q3 (Z : State) (a1 : Addr) (cz : Int32) (h0 : Heap) (n0 : Nat) (v : Option Value) (h : Heap) (L : List Loc) : Prop := v = some (.int (1 : Int32)) ∧ L = [] ∧ h = h0
abbrev R3 : Room := { frames := 0, cells := 0, slots := 0, locals := 0 }
set_option maxRecDepth 65536 in
set_option maxHeartbeats 40000000 in
theorem rm3 (l : Launch) (Z : State) (a0 : Array Value) (hw : ∀ d ∈ tables_1, d.before a0 Z = true) (ws : List Jvm.Cond) (a1 : Addr) (cz : Int32) (h0 : Heap) (n0 : Nat) (Z0 : n0 ≤ h0.size) (S_COMPACT_STRINGS : Sta Z h0 "java/lang/String" "COMPACT_STRINGS" "Z" (.int cz)) (F_coder_a1 : Fld Z h0 a1 "java/lang/String" "coder" "B" (.int (0 : Int32))) (hcz : ¬ cz = (0 : Int32)) :
    MetFree l (⟨"java/lang/String", "isLatin1", "()Z"⟩ : MethodName) (head1 (Jvm.Cond.code (⟨"java/lang/String", "isLatin1", "()Z"⟩ : MethodName) jdk_42_method_154_code 1 (some .boolean) :: ws) R3) (fun a U => a = #[(.ref a1)] ∧ Z.Warmed39 U.vm ∧ U.heap = h0) (fun _ _ _ _ _ => True) (fun _ U o U' => ∃ v L, o = .returned v ∧ Q3 Z a1 cz h0 n0 v U'.heap L ∧ FrameEnd U o U' L R3.cells R3.slots) := by
  refine MetFree.of_bodySF (plainFor_of_name pn_1) hisR ?_
  intro p e s m args below meth c s₁ Bd hml0 hP hK
  obtain ⟨rfl, hZ, hh⟩ := hP
  have hx := Bd.exec
  have hby := Bd.bytes
  have hlk : meth.locks = false := BodyLoose.notSynchronized Bd
  have hml : c.maxLocals = 1 := hml0
  have hown : s.vm.findClass "java/lang/String" = some m.cls := findClass_of_methodNamed Bd.named
  have hnm := (name_of_methodNamed Bd.named Bd.method).1
  have X0 : Stand p l e R3 s m #[(.ref a1)] below meth c s₁ [] 0 0 := Stand.of_body Bd
  have e0 : s₁.heap = h0 := by rw [← hh, Bd.state]; rfl
  have N0 := Fr.nil n0
  show own_Goes p e below s (Q3 Z a1 cz h0 n0) R3.cells R3.slots s₁ (entryFrame m #[(.ref a1)] 1)
  rw [ef_3 m a1]
  obtain ⟨T1, X1, e1, st1⟩ := getS2 X0 hx hZ hown (host := "") (Or.inl (hw _ (List.mem_of_getElem? (i := 23) rfl))) Via.refl e0 S_COMPACT_STRINGS (g := (mkF m 0 #[.val (.ref a1)] [])) rfl (hb hby d3_0)
  refine own_step (f' := (mkF m 3 #[.val (.ref a1)] [(.int cz)])) st1 ?_
  have hf3_2 : ¬ (cz = (0 : Int32)) := hcz
  refine own_step (f' := (mkF m 6 #[.val (.ref a1)] [])) (fun _ k => XS.ifNo X1.here hx rfl (hb hby d3_3) rfl ((if0 _ _).trans (feq hf3_2).1) k) ?_
  refine own_step (f' := (mkF m 7 #[.val (.ref a1)] [(.ref a1)])) (fun _ k => XS.aloadN X1.here hx rfl (hb hby d3_6) rfl rfl k) ?_
  obtain ⟨T3, X3, e3, st3⟩ := getF X1 hx hZ hown (host := "") (Or.inl (hw _ (List.mem_of_getElem? (i := 24) rfl))) Via.refl e1 F_coder_a1 (g := (mkF m 7 #[.val (.ref a1)] [(.ref a1)])) rfl rfl (hb hby d3_7)
  refine own_step (f' := (mkF m 10 #[.val (.ref a1)] [(.int (0 : Int32))])) st3 ?_
  refine own_step (f' := (mkF m 13 #[.val (.ref a1)] [])) (fun _ k => XS.ifNo X3.here hx rfl (hb hby d3_10) rfl ((if0 _ _).trans (teq (by decide : ((0 : Int32) = (0 : Int32)))).2) k) ?_
  refine own_step (f' := (mkF m 14 #[.val (.ref a1)] [(.int (1 : Int32))])) (fun _ k => XS.iconst X3.here hx rfl (hb hby d3_13) k) ?_
  refine own_step (f' := (mkF m 18 #[.val (.ref a1)] [(.int (1 : Int32))])) (fun _ k => XS.goto X3.here hx rfl (pc0 := 14) (pc' := 18) rfl (hb hby d3_14) (by decide) (by decide) k) ?_
  refine own_out (v := some (.int (1 : Int32))) X3 hlk (fun h => by rw [Bd.returns] at h; cases h) (fun fs hr => retN X3 hx (t := .boolean) Bd.returns (by simp) (hb hby d3_18) hr) (by decide) (by decide) ?_
  rw [e3]
  exact ⟨rfl, rfl, rfl⟩
theorem d6_0 : decode jdk_41_method_11_code 0 = .ok (.iload_n 0, 1) := by decide +kernel
theorem d6_1 : decode jdk_41_method_11_code 1 = .ok (.ifCond .lt 8, 3) := by decide +kernel
theorem d6_4 : decode jdk_41_method_11_code 4 = .ok (.iload_n 0, 1) := by decide +kernel
theorem d6_5 : decode jdk_41_method_11_code 5 = .ok (.iload_n 1, 1) := by decide +kernel
theorem d6_6 : decode jdk_41_method_11_code 6 = .ok (.if_icmp .lt 10, 3) := by decide +kernel
theorem d6_16 : decode jdk_41_method_11_code 16 = .ok (.iload_n 0, 1) := by decide +kernel
theorem d6_17 : decode jdk_41_method_11_code 17 = .ok (.ireturn, 1) := by decide +kernel
theorem pn_2 : plainName "jdk/internal/util/Preconditions" = true := by first | (simp [plainName, overriddenIn]; done) | decide +kernel
theorem ef_6 (m : MethodId) (x0 : Int32) (x1 : Int32) (x2 : Value) (hx2 : x2.category = 1) : entryFrame m #[(.int x0), (.int x1), x2] 3 = mkF m 0 #[.val (.int x0), .val (.int x1), .val x2] [] := by cases x2 <;> first | rfl | (simp [Value.category] at *)
def Q6 (Z : State) (p1 : Int32) (p2 : Int32) (fz : Value) (h0 : Heap) (n0 : Nat) (v : Option Value) (h : Heap) (L : List Loc) : Prop := v = some (.int p1) ∧ L = [] ∧ h = h0
abbrev R6 : Room := { frames := 0, cells := 0, slots := 0, locals := 0 }
set_option maxRecDepth 65536 in
set_option maxHeartbeats 40000000 in
theorem rm6 (l : Launch) (Z : State) (a0 : Array Value) (hw : ∀ d ∈ tables_1, d.before a0 Z = true) (ws : List Jvm.Cond) (p1 : Int32) (p2 : Int32) (fz : Value) (h0 : Heap) (n0 : Nat) (Z0 : n0 ≤ h0.size) (hfz : fz.isRef = true) (hi : ¬ p1 < (0 : Int32) ∧ p1 < p2) :
    MetFree l (⟨"jdk/internal/util/Preconditions", "checkIndex", "(IILjava/util/function/BiFunction;)I"⟩ : MethodName) (head1 (Jvm.Cond.code (⟨"jdk/internal/util/Preconditions", "checkIndex", "(IILjava/util/function/BiFunction;)I"⟩ : MethodName) jdk_41_method_11_code 3 (some .int) :: ws) R6) (fun a U => a = #[(.int p1), (.int p2), fz] ∧ Z.Warmed39 U.vm ∧ U.heap = h0) (fun _ _ _ _ _ => True) (fun _ U o U' => ∃ v L, o = .returned v ∧ Q6 Z p1 p2 fz h0 n0 v U'.heap L ∧ FrameEnd U o U' L R6.cells R6.slots) := by
  refine MetFree.of_bodySF (plainFor_of_name pn_2) hisR ?_
  intro p e s m args below meth c s₁ Bd hml0 hP hK
  obtain ⟨rfl, hZ, hh⟩ := hP
  have hx := Bd.exec
  have hby := Bd.bytes
  have hlk : meth.locks = false := BodyLoose.notSynchronized Bd
  have hml : c.maxLocals = 3 := hml0
  have hown : s.vm.findClass "jdk/internal/util/Preconditions" = some m.cls := findClass_of_methodNamed Bd.named
  have hnm := (name_of_methodNamed Bd.named Bd.method).1
  have X0 : Stand p l e R6 s m #[(.int p1), (.int p2), fz] below meth c s₁ [] 0 0 := Stand.of_body Bd
  have e0 : s₁.heap = h0 := by rw [← hh, Bd.state]; rfl
  have N0 := Fr.nil n0
  show own_Goes p e below s (Q6 Z p1 p2 fz h0 n0) R6.cells R6.slots s₁ (entryFrame m #[(.int p1), (.int p2), fz] 3)
  rw [ef_6 m p1 p2 fz (XT.cat1 hfz)]
  refine own_step (f' := (mkF m 1 #[.val (.int p1), .val (.int p2), .val fz] [(.int p1)])) (fun _ k => XS.iloadN X0.here hx rfl (hb hby d6_0) rfl k) ?_
  have hf1_1 : ¬ (p1 < (0 : Int32)) := hi.1
  refine own_step (f' := (mkF m 4 #[.val (.int p1), .val (.int p2), .val fz] [])) (fun _ k => XS.ifNo X0.here hx rfl (hb hby d6_1) rfl ((if0 _ _).trans (flt hf1_1).1) k) ?_
  refine own_step (f' := (mkF m 5 #[.val (.int p1), .val (.int p2), .val fz] [(.int p1)])) (fun _ k => XS.iloadN X0.here hx rfl (hb hby d6_4) rfl k) ?_
  refine own_step (f' := (mkF m 6 #[.val (.int p1), .val (.int p2), .val fz] [(.int p2), (.int p1)])) (fun _ k => XS.iloadN X0.here hx rfl (hb hby d6_5) rfl k) ?_
  have hf6_2 : p1 < p2 := hi.2
  refine own_step (f' := (mkF m 16 #[.val (.int p1), .val (.int p2), .val fz] [])) (fun _ k => XS.icmpYes X0.here hx rfl (pc0 := 6) (pc' := 16) rfl (hb hby d6_6) rfl (tlt hf6_2).1 (by decide) (by decide) k) ?_
  refine own_step (f' := (mkF m 17 #[.val (.int p1), .val (.int p2), .val fz] [(.int p1)])) (fun _ k => XS.iloadN X0.here hx rfl (hb hby d6_16) rfl k) ?_
  refine own_out (v := some (.int p1)) X0 hlk (fun h => by rw [Bd.returns] at h; cases h) (fun fs hr => retOut X0 hx Bd.returns rfl (Or.inl ⟨rfl, Or.inl rfl, _, rfl⟩) (hb hby d6_17) hr) (by decide) (by decide) ?_
  rw [e0]
  exact ⟨rfl, rfl, rfl⟩
theorem pd_0 : parseMethodDescriptor "(IILjava/util/function/BiFunction;)I" = some ⟨[.int, .int, (.object "java/util/function/BiFunction")], some .int⟩ := by decide +kernel
theorem d5_0 : decode jdk_42_method_155_code 0 = .ok (.iload_n 0, 1) := by decide +kernel
theorem d5_1 : decode jdk_42_method_155_code 1 = .ok (.iload_n 1, 1) := by decide +kernel
theorem d5_2 : decode jdk_42_method_155_code 2 = .ok (.getstatic 1053, 3) := by decide +kernel
theorem d5_5 : decode jdk_42_method_155_code 5 = .ok (.invokestatic 1059, 3) := by decide +kernel
theorem d5_8 : decode jdk_42_method_155_code 8 = .ok (.pop, 1) := by decide +kernel
theorem d5_9 : decode jdk_42_method_155_code 9 = .ok (.return_, 1) := by decide +kernel
theorem ef_5 (m : MethodId) (x0 : Int32) (x1 : Int32) : entryFrame m #[(.int x0), (.int x1)] 2 = mkF m 0 #[.val (.int x0), .val (.int x1)] [] := by first | (simp [entryFrame, mkF, argsToLocals, Value.category]; done) | rfl
def Q5 (Z : State) (p1 : Int32) (p2 : Int32) (fz : Value) (h0 : Heap) (n0 : Nat) (v : Option Value) (h : Heap) (L : List Loc) : Prop := v = none ∧ L = [] ∧ h = h0
abbrev R5 : Room := { frames := 1, cells := 0, slots := 0, locals := 14 }
set_option maxRecDepth 65536 in
set_option maxHeartbeats 40000000 in
theorem rm5 (l : Launch) (Z : State) (a0 : Array Value) (hw : ∀ d ∈ tables_1, d.before a0 Z = true) (ws : List Jvm.Cond) (p1 : Int32) (p2 : Int32) (fz : Value) (h0 : Heap) (n0 : Nat) (Z0 : n0 ≤ h0.size) (S_SIOOBE_FORMATTER : Sta Z h0 "jdk/internal/util/Preconditions" "SIOOBE_FORMATTER" "Ljava/util/function/BiFunction;" fz) (hfz : fz.isRef = true) (hi : ¬ p1 < (0 : Int32) ∧ p1 < p2) :
    MetFree l (⟨"java/lang/String", "checkIndex", "(II)V"⟩ : MethodName) (head1 (Jvm.Cond.code (⟨"java/lang/String", "checkIndex", "(II)V"⟩ : MethodName) jdk_42_method_155_code 2 none :: ws) R5) (fun a U => a = #[(.int p1), (.int p2)] ∧ Z.Warmed39 U.vm ∧ U.heap = h0) (fun _ _ _ _ _ => True) (fun _ U o U' => ∃ v L, o = .returned v ∧ Q5 Z p1 p2 fz h0 n0 v U'.heap L ∧ FrameEnd U o U' L R5.cells R5.slots) := by
  refine MetFree.of_bodySF (plainFor_of_name pn_1) hisR ?_
  intro p e s m args below meth c s₁ Bd hml0 hP hK
  obtain ⟨rfl, hZ, hh⟩ := hP
  have hx := Bd.exec
  have hby := Bd.bytes
  have hlk : meth.locks = false := BodyLoose.notSynchronized Bd
  have hml : c.maxLocals = 2 := hml0
  have hown : s.vm.findClass "java/lang/String" = some m.cls := findClass_of_methodNamed Bd.named
  have hnm := (name_of_methodNamed Bd.named Bd.method).1
  have X0 : Stand p l e R5 s m #[(.int p1), (.int p2)] below meth c s₁ [] 0 0 := Stand.of_body Bd
  have e0 : s₁.heap = h0 := by rw [← hh, Bd.state]; rfl
  have N0 := Fr.nil n0
  show own_Goes p e below s (Q5 Z p1 p2 fz h0 n0) R5.cells R5.slots s₁ (entryFrame m #[(.int p1), (.int p2)] 2)
  rw [ef_5 m p1 p2]
  refine own_step (f' := (mkF m 1 #[.val (.int p1), .val (.int p2)] [(.int p1)])) (fun _ k => XS.iloadN X0.here hx rfl (hb hby d5_0) rfl k) ?_
  refine own_step (f' := (mkF m 2 #[.val (.int p1), .val (.int p2)] [(.int p2), (.int p1)])) (fun _ k => XS.iloadN X0.here hx rfl (hb hby d5_1) rfl k) ?_
  obtain ⟨T1, X1, e1, st1⟩ := getS2 X0 hx hZ hown (host := "") (Or.inl (hw _ (List.mem_of_getElem? (i := 33) rfl))) Via.refl e0 S_SIOOBE_FORMATTER (g := (mkF m 2 #[.val (.int p1), .val (.int p2)] [(.int p2), (.int p1)])) rfl (hb hby d5_2)
  refine own_step (f' := (mkF m 5 #[.val (.int p1), .val (.int p2)] [fz, (.int p2), (.int p1)])) st1 ?_
  have hp2_hfz : fz.isRef = true := hfz
  have hp2_hi : ¬ p1 < (0 : Int32) ∧ p1 < p2 := hi
  have Zq2 : n0 ≤ h0.size := Z0
  obtain ⟨_, _, ⟨T2, L2, k2, n2⟩, -, X2, ⟨Lc2, hQ2, l2, y2, z2⟩, st2⟩ := Jvm.LawKit.callS X1 hx (y := (⟨"jdk/internal/util/Preconditions", "checkIndex", "(IILjava/util/function/BiFunction;)I"⟩ : MethodName)) hown (mvT hZ (hw _ (List.mem_of_getElem? (i := 35) rfl))) (mvT hZ (hw _ (List.mem_of_getElem? (i := 36) rfl))) (mvT hZ (hw _ (List.mem_of_getElem? (i := 34) rfl))) (mvT hZ (hw _ (List.mem_of_getElem? (i := 37) rfl))) (by decide) (backOf (W := 0) (rm6 l Z a0 hw [] p1 p2 fz h0 n0 Zq2 hp2_hfz hp2_hi) hZ (hw _ (List.mem_of_getElem? (i := 37) rfl)) (hw _ (List.mem_of_getElem? (i := 34) rfl)) (by decide) (by decide)) (g := (mkF m 5 #[.val (.int p1), .val (.int p2)] [fz, (.int p2), (.int p1)])) rfl (by rw [hml]; rfl) (argsL := [(.int p1), (.int p2), fz]) (rest := []) (lenOf pd_0 rfl) rfl (by show 2 * 0 + _ ≤ _; exact Nat.le_of_eq rfl) (hb hby d5_5) (fun _ _ => ⟨rfl, e1, (by decide : 0 + 0 ≤ _), (by decide : 0 + 0 ≤ _)⟩)
  dsimp only [Pt.U, Pt.locs, Pt.cells, Pt.slots] at X2 l2 y2 z2 st2 hQ2
  subst l2 y2 z2
  obtain ⟨rfl, rfl, e2⟩ := hQ2
  try rw [List.append_nil] at X2
  refine own_step (f' := (mkF m 8 #[.val (.int p1), .val (.int p2)] [(.int p1)])) st2 ?_
  refine own_step (f' := (mkF m 9 #[.val (.int p1), .val (.int p2)] [])) (fun _ k => XS.pop X2.here hx rfl (hb hby d5_8) rfl rfl k) ?_
  refine own_out (v := none) X2 hlk (fun _ => rfl) (fun fs hr => X2.returnOut hx Bd.returns (hb hby d5_9) hr) (by decide) (by decide) ?_
  rw [e2]
  exact ⟨rfl, rfl, rfl⟩
theorem own_getI (bs : List Int32) : ∀ n : Nat, (bs.map Value.int).getD n (.int (0 : Int32)) = .int (bs.getD n 0) := by
  induction bs with
  | nil => intro n; rfl
  | cons a t ih => intro n; cases n with
    | zero => rfl
    | succ n => exact ih n
def own_ca (bs : List Int32) (p : Int32) : Int32 := nar .char (((bs.getD p.toNatClampNeg 0) &&& (255 : Int32)).toUInt32.toUInt16.toUInt32.toInt32)
def own_ch (bs : List Int32) (p : Int32) : Int32 := nar .char (own_ca bs p)
theorem pd_1 : parseMethodDescriptor "(II)V" = some ⟨[.int, .int], none⟩ := by decide +kernel
theorem d4_0 : decode jdk_43_method_2_code 0 = .ok (.iload_n 1, 1) := by decide +kernel
theorem d4_1 : decode jdk_43_method_2_code 1 = .ok (.aload_n 0, 1) := by decide +kernel
theorem d4_2 : decode jdk_43_method_2_code 2 = .ok (.arraylength, 1) := by decide +kernel
theorem d4_3 : decode jdk_43_method_2_code 3 = .ok (.invokestatic 9, 3) := by decide +kernel
theorem d4_6 : decode jdk_43_method_2_code 6 = .ok (.aload_n 0, 1) := by decide +kernel
theorem d4_7 : decode jdk_43_method_2_code 7 = .ok (.iload_n 1, 1) := by decide +kernel
theorem d4_8 : decode jdk_43_method_2_code 8 = .ok (.baload, 1) := by decide +kernel
theorem d4_9 : decode jdk_43_method_2_code 9 = .ok (.sipush 255, 3) := by decide +kernel
theorem d4_12 : decode jdk_43_method_2_code 12 = .ok (.iand, 1) := by decide +kernel
theorem d4_13 : decode jdk_43_method_2_code 13 = .ok (.i2c, 1) := by decide +kernel
theorem d4_14 : decode jdk_43_method_2_code 14 = .ok (.ireturn, 1) := by decide +kernel
theorem pn_3 : plainName "java/lang/StringLatin1" = true := by first | (simp [plainName, overriddenIn]; done) | decide +kernel
theorem ef_4 (m : MethodId) (x0 : Addr) (x1 : Int32) : entryFrame m #[(.ref x0), (.int x1)] 2 = mkF m 0 #[.val (.ref x0), .val (.int x1)] [] := by first | (simp [entryFrame, mkF, argsToLocals, Value.category]; done) | rfl
def Q4 (Z : State) (a1 : Addr) (p2 : Int32) (kb : ClassId) (z1 : Int32) (bs : List Int32) (fz : Value) (h0 : Heap) (n0 : Nat) (v : Option Value) (h : Heap) (L : List Loc) : Prop := v = some (.int (own_ca bs p2)) ∧ L = [] ∧ h = h0
abbrev R4 : Room := { frames := 2, cells := 0, slots := 0, locals := 27 }
set_option maxRecDepth 65536 in
set_option maxHeartbeats 40000000 in
theorem rm4 (l : Launch) (Z : State) (a0 : Array Value) (hw : ∀ d ∈ tables_1, d.before a0 Z = true) (ws : List Jvm.Cond) (a1 : Addr) (p2 : Int32) (kb : ClassId) (z1 : Int32) (bs : List Int32) (fz : Value) (h0 : Heap) (n0 : Nat) (Z0 : n0 ≤ h0.size) (V_a1 : Arv Z h0 a1 kb .byte z1 (bs.map Value.int) (.int (0 : Int32))) (S_SIOOBE_FORMATTER : Sta Z h0 "jdk/internal/util/Preconditions" "SIOOBE_FORMATTER" "Ljava/util/function/BiFunction;" fz) (hfz : fz.isRef = true) (hi : ¬ p2 < (0 : Int32) ∧ p2 < z1) :
    MetFree l (⟨"java/lang/StringLatin1", "charAt", "([BI)C"⟩ : MethodName) (head1 (Jvm.Cond.code (⟨"java/lang/StringLatin1", "charAt", "([BI)C"⟩ : MethodName) jdk_43_method_2_code 2 (some .char) :: ws) R4) (fun a U => a = #[(.ref a1), (.int p2)] ∧ Z.Warmed39 U.vm ∧ U.heap = h0) (fun _ _ _ _ _ => True) (fun _ U o U' => ∃ v L, o = .returned v ∧ Q4 Z a1 p2 kb z1 bs fz h0 n0 v U'.heap L ∧ FrameEnd U o U' L R4.cells R4.slots) := by
  refine MetFree.of_bodySF (plainFor_of_name pn_3) hisR ?_
  intro p e s m args below meth c s₁ Bd hml0 hP hK
  obtain ⟨rfl, hZ, hh⟩ := hP
  have hx := Bd.exec
  have hby := Bd.bytes
  have hlk : meth.locks = false := BodyLoose.notSynchronized Bd
  have hml : c.maxLocals = 2 := hml0
  have hown : s.vm.findClass "java/lang/StringLatin1" = some m.cls := findClass_of_methodNamed Bd.named
  have hnm := (name_of_methodNamed Bd.named Bd.method).1
  have X0 : Stand p l e R4 s m #[(.ref a1), (.int p2)] below meth c s₁ [] 0 0 := Stand.of_body Bd
  have e0 : s₁.heap = h0 := by rw [← hh, Bd.state]; rfl
  have N0 := Fr.nil n0
  show own_Goes p e below s (Q4 Z a1 p2 kb z1 bs fz h0 n0) R4.cells R4.slots s₁ (entryFrame m #[(.ref a1), (.int p2)] 2)
  rw [ef_4 m a1 p2]
  refine own_step (f' := (mkF m 1 #[.val (.ref a1), .val (.int p2)] [(.int p2)])) (fun _ k => XS.iloadN X0.here hx rfl (hb hby d4_0) rfl k) ?_
  refine own_step (f' := (mkF m 2 #[.val (.ref a1), .val (.int p2)] [(.ref a1), (.int p2)])) (fun _ k => XS.aloadN X0.here hx rfl (hb hby d4_1) rfl rfl k) ?_
  obtain ⟨cl1, Ar1, qa1, Sa1, Na1, Ha1, Ga1⟩ := id (V_a1)
  refine own_step (f' := (mkF m 3 #[.val (.ref a1), .val (.int p2)] [(.int z1), (.int p2)])) (fun _ k => X0.arraylength hx (by rw [e0]; exact Ar1.1) (State.isArrayOf_alike hZ.alike Ar1.2.1) (g := (mkF m 2 #[.val (.ref a1), .val (.int p2)] [(.ref a1), (.int p2)])) rfl rfl (hb hby d4_2) _ (by rw [len_of Sa1 Na1]; exact k)) ?_
  have hp2_hfz : fz.isRef = true := hfz
  have hp2_hi : ¬ p2 < (0 : Int32) ∧ p2 < z1 := hi
  have Zq2 : n0 ≤ h0.size := Z0
  obtain ⟨_, _, ⟨T2, L2, k2, n2⟩, -, X2, ⟨Lc2, hQ2, l2, y2, z2⟩, st2⟩ := Jvm.LawKit.callS X0 hx (y := (⟨"java/lang/String", "checkIndex", "(II)V"⟩ : MethodName)) hown (mvT hZ (hw _ (List.mem_of_getElem? (i := 30) rfl))) (mvT hZ (hw _ (List.mem_of_getElem? (i := 31) rfl))) (mvT hZ (hw _ (List.mem_of_getElem? (i := 1) rfl))) (mvT hZ (hw _ (List.mem_of_getElem? (i := 32) rfl))) (by decide) (backOf (W := 0) (rm5 l Z a0 hw [] p2 z1 fz h0 n0 Zq2 S_SIOOBE_FORMATTER hp2_hfz hp2_hi) hZ (hw _ (List.mem_of_getElem? (i := 32) rfl)) (hw _ (List.mem_of_getElem? (i := 1) rfl)) (by decide) (by decide)) (g := (mkF m 3 #[.val (.ref a1), .val (.int p2)] [(.int z1), (.int p2)])) rfl (by rw [hml]; rfl) (argsL := [(.int p2), (.int z1)]) (rest := []) (lenOf pd_1 rfl) rfl (by show 2 * 0 + _ ≤ _; exact Nat.le_of_eq rfl) (hb hby d4_3) (fun _ _ => ⟨rfl, e0, (by decide : 0 + 0 ≤ _), (by decide : 0 + 0 ≤ _)⟩)
  dsimp only [Pt.U, Pt.locs, Pt.cells, Pt.slots] at X2 l2 y2 z2 st2 hQ2
  subst l2 y2 z2
  obtain ⟨rfl, rfl, e2⟩ := hQ2
  try rw [List.append_nil] at X2
  refine own_step (f' := (mkF m 6 #[.val (.ref a1), .val (.int p2)] [])) st2 ?_
  refine own_step (f' := (mkF m 7 #[.val (.ref a1), .val (.int p2)] [(.ref a1)])) (fun _ k => XS.aloadN X2.here hx rfl (hb hby d4_6) rfl rfl k) ?_
  refine own_step (f' := (mkF m 8 #[.val (.ref a1), .val (.int p2)] [(.int p2), (.ref a1)])) (fun _ k => XS.iloadN X2.here hx rfl (hb hby d4_7) rfl k) ?_
  obtain ⟨cl3, Ar3, qa3, Sa3, Na3, Ha3, Ga3⟩ := id (V_a1)
  have hin4 : ¬ (p2 < 0 ∨ cl3.slots.size ≤ (p2).toNatClampNeg) := inb_of Sa3 hi
  refine own_step (f' := (mkF m 9 #[.val (.ref a1), .val (.int p2)] [(.int (bs.getD (p2).toNatClampNeg 0))])) (fun _ k => X2.baloadBytes hx (j := p2) (v := (.int (bs.getD (p2).toNatClampNeg 0))) (by rw [e2]; exact Ar3.1) (State.isArrayOf_alike hZ.alike Ar3.2.1) Ar3.2.2 hin4 (Ha3.at hin4 (own_getI bs _)) (g := (mkF m 8 #[.val (.ref a1), .val (.int p2)] [(.int p2), (.ref a1)])) rfl rfl (hb hby d4_8) _ k) ?_
  refine own_step (f' := (mkF m 12 #[.val (.ref a1), .val (.int p2)] [(.int (255 : Int32)), (.int (bs.getD (p2).toNatClampNeg 0))])) (fun _ k => XS.sipush X2.here hx rfl (hb hby d4_9) k) ?_
  refine own_step (f' := (mkF m 13 #[.val (.ref a1), .val (.int p2)] [(.int ((bs.getD (p2).toNatClampNeg 0) &&& (255 : Int32)))])) (fun _ k => XS.iand X2.here hx rfl (hb hby d4_12) rfl k) ?_
  refine own_step (f' := (mkF m 14 #[.val (.ref a1), .val (.int p2)] [(.int (((bs.getD (p2).toNatClampNeg 0) &&& (255 : Int32)).toUInt32.toUInt16.toUInt32.toInt32))])) (fun _ k => XS.i2c X2.here hx rfl (hb hby d4_13) rfl k) ?_
  refine own_out (v := some (.int (nar .char (((bs.getD (p2).toNatClampNeg 0) &&& (255 : Int32)).toUInt32.toUInt16.toUInt32.toInt32)))) X2 hlk (fun h => by rw [Bd.returns] at h; cases h) (fun fs hr => retN X2 hx (t := .char) Bd.returns (by simp) (hb hby d4_14) hr) (by decide) (by decide) ?_
  rw [e2]
  exact ⟨rfl, rfl, rfl⟩
theorem pd_2 : parseMethodDescriptor "()Z" = some ⟨[], some .boolean⟩ := by decide +kernel
theorem pd_3 : parseMethodDescriptor "([BI)C" = some ⟨[(.array .byte), .int], some .char⟩ := by decide +kernel
theorem d2_0 : decode jdk_42_method_56_code 0 = .ok (.aload_n 0, 1) := by decide +kernel
theorem d2_1 : decode jdk_42_method_56_code 1 = .ok (.invokevirtual 492, 3) := by decide +kernel
theorem d2_4 : decode jdk_42_method_56_code 4 = .ok (.ifCond .eq 12, 3) := by decide +kernel
theorem d2_7 : decode jdk_42_method_56_code 7 = .ok (.aload_n 0, 1) := by decide +kernel
theorem d2_8 : decode jdk_42_method_56_code 8 = .ok (.getfield 9, 3) := by decide +kernel
theorem d2_11 : decode jdk_42_method_56_code 11 = .ok (.iload_n 1, 1) := by decide +kernel
theorem d2_12 : decode jdk_42_method_56_code 12 = .ok (.invokestatic 495, 3) := by decide +kernel
theorem d2_15 : decode jdk_42_method_56_code 15 = .ok (.ireturn, 1) := by decide +kernel
theorem ef_2 (m : MethodId) (x0 : Addr) (x1 : Int32) : entryFrame m #[(.ref x0), (.int x1)] 2 = mkF m 0 #[.val (.ref x0), .val (.int x1)] [] := by first | (simp [entryFrame, mkF, argsToLocals, Value.category]; done) | rfl
def Q2 (Z : State) (a1 : Addr) (p2 : Int32) (a2 : Addr) (kb : ClassId) (z1 : Int32) (bs : List Int32) (cz : Int32) (fz : Value) (h0 : Heap) (n0 : Nat) (v : Option Value) (h : Heap) (L : List Loc) : Prop := v = some (.int (own_ch bs p2)) ∧ L = [] ∧ h = h0
abbrev R2 : Room := { frames := 3, cells := 0, slots := 0, locals := 40 }
set_option maxRecDepth 65536 in
set_option maxHeartbeats 40000000 in
theorem rm2 (l : Launch) (Z : State) (a0 : Array Value) (hw : ∀ d ∈ tables_1, d.before a0 Z = true) (ws : List Jvm.Cond) (a1 : Addr) (p2 : Int32) (a2 : Addr) (kb : ClassId) (z1 : Int32) (bs : List Int32) (cz : Int32) (fz : Value) (h0 : Heap) (n0 : Nat) (Z0 : n0 ≤ h0.size) (E_a1 : Exa Z h0 a1 "java/lang/String") (F_coder_a1 : Fld Z h0 a1 "java/lang/String" "coder" "B" (.int (0 : Int32))) (F_value_a1 : Fld Z h0 a1 "java/lang/String" "value" "[B" (.ref a2)) (V_a2 : Arv Z h0 a2 kb .byte z1 (bs.map Value.int) (.int (0 : Int32))) (S_COMPACT_STRINGS : Sta Z h0 "java/lang/String" "COMPACT_STRINGS" "Z" (.int cz)) (S_SIOOBE_FORMATTER : Sta Z h0 "jdk/internal/util/Preconditions" "SIOOBE_FORMATTER" "Ljava/util/function/BiFunction;" fz) (hcz : ¬ cz = (0 : Int32)) (hfz : fz.isRef = true) (hi : ¬ p2 < (0 : Int32) ∧ p2 < z1) :
    MetFree l (⟨"java/lang/String", "charAt", "(I)C"⟩ : MethodName) (head1 (Jvm.Cond.code (⟨"java/lang/String", "charAt", "(I)C"⟩ : MethodName) jdk_42_method_56_code 2 (some .char) :: ws) R2) (fun a U => a = #[(.ref a1), (.int p2)] ∧ Z.Warmed39 U.vm ∧ U.heap = h0) (fun _ _ _ _ _ => True) (fun _ U o U' => ∃ v L, o = .returned v ∧ Q2 Z a1 p2 a2 kb z1 bs cz fz h0 n0 v U'.heap L ∧ FrameEnd U o U' L R2.cells R2.slots) := by
  refine MetFree.of_bodySF (plainFor_of_name pn_1) hisR ?_
  intro p e s m args below meth c s₁ Bd hml0 hP hK
  obtain ⟨rfl, hZ, hh⟩ := hP
  have hx := Bd.exec
  have hby := Bd.bytes
  have hlk : meth.locks = false := BodyLoose.notSynchronized Bd
  have hml : c.maxLocals = 2 := hml0
  have hown : s.vm.findClass "java/lang/String" = some m.cls := findClass_of_methodNamed Bd.named
  have hnm := (name_of_methodNamed Bd.named Bd.method).1
  have X0 : Stand p l e R2 s m #[(.ref a1), (.int p2)] below meth c s₁ [] 0 0 := Stand.of_body Bd
  have e0 : s₁.heap = h0 := by rw [← hh, Bd.state]; rfl
  have N0 := Fr.nil n0
  show own_Goes p e below s (Q2 Z a1 p2 a2 kb z1 bs cz fz h0 n0) R2.cells R2.slots s₁ (entryFrame m #[(.ref a1), (.int p2)] 2)
  rw [ef_2 m a1 p2]
  refine own_step (f' := (mkF m 1 #[.val (.ref a1), .val (.int p2)] [(.ref a1)])) (fun _ k => XS.aloadN X0.here hx rfl (hb hby d2_0) rfl rfl k) ?_
  have hp1_hcz : ¬ cz = (0 : Int32) := hcz
  have Zq1 : n0 ≤ h0.size := Z0
  obtain ⟨cq1, kq1, q1a, q1b, q1c⟩ := isOf hZ e0 E_a1
  obtain ⟨_, _, ⟨T1, L1, k1, n1⟩, -, X1, ⟨Lc1, hQ1, l1, y1, z1⟩, st1⟩ := X0.virtualBack hx (y := (⟨"java/lang/String", "isLatin1", "()Z"⟩ : MethodName)) (z := (⟨"java/lang/String", "isLatin1", "()Z"⟩ : MethodName)) hown (mvT hZ (hw _ (List.mem_of_getElem? (i := 18) rfl))) (mvT hZ (hw _ (List.mem_of_getElem? (i := 19) rfl))) (notFace_of_selects (args := #[]) (mvT hZ (hw _ (List.mem_of_getElem? (i := 21) rfl)))) (mvT hZ (hw _ (List.mem_of_getElem? (i := 21) rfl))) (mvT hZ (hw _ (List.mem_of_getElem? (i := 20) rfl))) (by decide) (backOf (W := 0) (rm3 l Z a0 hw [] a1 cz h0 n0 Zq1 S_COMPACT_STRINGS F_coder_a1 hp1_hcz) hZ (hw _ (List.mem_of_getElem? (i := 22) rfl)) (hw _ (List.mem_of_getElem? (i := 1) rfl)) (by decide) (by decide)) q1a q1c (g := (mkF m 1 #[.val (.ref a1), .val (.int p2)] [(.ref a1)])) rfl (by rw [hml]; rfl) (Steps.refl _) (argsL := []) (rest := []) (lenOf pd_2 rfl) rfl (by show 2 * 0 + _ ≤ _; exact Nat.le_of_eq rfl) (hb hby d2_1) (fun _ _ => ⟨rfl, e0, (by decide : 0 + 0 ≤ _), (by decide : 0 + 0 ≤ _)⟩)
  dsimp only [Pt.U, Pt.locs, Pt.cells, Pt.slots] at X1 l1 y1 z1 st1 hQ1
  subst l1 y1 z1
  obtain ⟨rfl, rfl, e1⟩ := hQ1
  try rw [List.append_nil] at X1
  refine own_jump (f' := (mkF m 4 #[.val (.ref a1), .val (.int p2)] [(.int (1 : Int32))])) st1 ?_
  refine own_step (f' := (mkF m 7 #[.val (.ref a1), .val (.int p2)] [])) (fun _ k => XS.ifNo X1.here hx rfl (hb hby d2_4) rfl ((if0 _ _).trans (feq (by decide : ¬ ((1 : Int32) = (0 : Int32)))).1) k) ?_
  refine own_step (f' := (mkF m 8 #[.val (.ref a1), .val (.int p2)] [(.ref a1)])) (fun _ k => XS.aloadN X1.here hx rfl (hb hby d2_7) rfl rfl k) ?_
  obtain ⟨T2, X2, e2, st2⟩ := getF X1 hx hZ hown (host := "") (Or.inl (hw _ (List.mem_of_getElem? (i := 25) rfl))) Via.refl e1 F_value_a1 (g := (mkF m 8 #[.val (.ref a1), .val (.int p2)] [(.ref a1)])) rfl rfl (hb hby d2_8)
  refine own_step (f' := (mkF m 11 #[.val (.ref a1), .val (.int p2)] [(.ref a2)])) st2 ?_
  refine own_step (f' := (mkF m 12 #[.val (.ref a1), .val (.int p2)] [(.int p2), (.ref a2)])) (fun _ k => XS.iloadN X2.here hx rfl (hb hby d2_11) rfl k) ?_
  have hp3_hfz : fz.isRef = true := hfz
  have hp3_hi : ¬ p2 < (0 : Int32) ∧ p2 < z1 := hi
  have Zq3 : n0 ≤ h0.size := Z0
  obtain ⟨_, _, ⟨T3, L3, k3, n3⟩, -, X3, ⟨Lc3, hQ3, l3, y3, z3⟩, st3⟩ := Jvm.LawKit.callS X2 hx (y := (⟨"java/lang/StringLatin1", "charAt", "([BI)C"⟩ : MethodName)) hown (mvT hZ (hw _ (List.mem_of_getElem? (i := 26) rfl))) (mvT hZ (hw _ (List.mem_of_getElem? (i := 27) rfl))) (mvT hZ (hw _ (List.mem_of_getElem? (i := 28) rfl))) (mvT hZ (hw _ (List.mem_of_getElem? (i := 29) rfl))) (by decide) (backOf (W := 0) (rm4 l Z a0 hw [] a2 p2 kb z1 bs fz h0 n0 Zq3 V_a2 S_SIOOBE_FORMATTER hp3_hfz hp3_hi) hZ (hw _ (List.mem_of_getElem? (i := 29) rfl)) (hw _ (List.mem_of_getElem? (i := 28) rfl)) (by decide) (by decide)) (g := (mkF m 12 #[.val (.ref a1), .val (.int p2)] [(.int p2), (.ref a2)])) rfl (by rw [hml]; rfl) (argsL := [(.ref a2), (.int p2)]) (rest := []) (lenOf pd_3 rfl) rfl (by show 2 * 0 + _ ≤ _; exact Nat.le_of_eq rfl) (hb hby d2_12) (fun _ _ => ⟨rfl, e2, (by decide : 0 + 0 ≤ _), (by decide : 0 + 0 ≤ _)⟩)
  dsimp only [Pt.U, Pt.locs, Pt.cells, Pt.slots] at X3 l3 y3 z3 st3 hQ3
  subst l3 y3 z3
  obtain ⟨rfl, rfl, e3⟩ := hQ3
  try rw [List.append_nil] at X3
  refine own_step (f' := (mkF m 15 #[.val (.ref a1), .val (.int p2)] [(.int (own_ca bs p2))])) st3 ?_
  refine own_out (v := some (.int (nar .char (own_ca bs p2)))) X3 hlk (fun h => by rw [Bd.returns] at h; cases h) (fun fs hr => retN X3 hx (t := .char) Bd.returns (by simp) (hb hby d2_15) hr) (by decide) (by decide) ?_
  rw [e3]
  exact ⟨rfl, rfl, rfl⟩
def own_U : List Int32 := [48, 49, 50, 51, 52, 53, 54, 55, 56, 57, 65, 66, 67, 68, 69, 70]
def own_L : List Int32 := [48, 49, 50, 51, 52, 53, 54, 55, 56, 57, 97, 98, 99, 100, 101, 102]
theorem own_hbig (x : Int32) (h : 128 ≤ x.toInt) : own_hx_0 x = (-1 : Int32) := by
  have nlt : ∀ k : Int32, k.toInt < 128 → ¬ x < k := fun k hk q => by rw [Int32.lt_iff_toInt_lt] at q; omega
  have lt : ∀ k : Int32, k.toInt < 128 → k < x := fun k hk => by rw [Int32.lt_iff_toInt_lt]; omega
  unfold own_hx_0 own_hx_22 own_hx_45
  simp only [nlt 48 (by decide), lt 57 (by decide), nlt 65 (by decide), lt 70 (by decide), nlt 97 (by decide), lt 102 (by decide), if_true, if_false]
theorem own_nat (x : Int32) (n : Nat) (hn : n ≤ 65536) (h0 : 0 ≤ x.toInt) (h1 : x.toInt < n) : ∃ k : Fin n, x = Int32.ofNat k.val := by
  refine ⟨⟨x.toInt.toNat, by omega⟩, ?_⟩
  apply Int32.toInt_inj.mp
  rw [Int32.toInt_ofNat_of_lt (by show x.toInt.toNat < _; omega)]
  show _ = ((x.toInt.toNat : Nat) : Int)
  omega
theorem own_f128 : ∀ k : Fin 128, own_hx_0 (Int32.ofNat k.val) = (-1 : Int32) ∨ (¬ own_hx_0 (Int32.ofNat k.val) < (0 : Int32) ∧ ¬ (15 : Int32) < own_hx_0 (Int32.ofNat k.val) ∧ (Int32.ofNat k.val = own_ch own_U (own_hx_0 (Int32.ofNat k.val)) ∨ Int32.ofNat k.val = own_ch own_L (own_hx_0 (Int32.ofNat k.val)))) := by decide +kernel
theorem own_f16 : ∀ k : Fin 16, own_hx_0 (own_ch own_U (Int32.ofNat k.val)) = Int32.ofNat k.val ∧ own_hx_0 (own_ch own_L (Int32.ofNat k.val)) = Int32.ofNat k.val := by decide +kernel
theorem own_any (c v : Int32) (h0 : 0 ≤ c.toInt) (hv : v = (if own_hx_0 c = (-1 : Int32) then (1 : Int32) else (if own_hx_0 c < (0 : Int32) then (0 : Int32) else (if (15 : Int32) < own_hx_0 c then (0 : Int32) else (if c = own_ch own_U (own_hx_0 c) then (1 : Int32) else (if c = own_ch own_L (own_hx_0 c) then (1 : Int32) else (0 : Int32))))))) : ¬ v = (0 : Int32) := by
  have key : own_hx_0 c = (-1 : Int32) ∨ (¬ own_hx_0 c < (0 : Int32) ∧ ¬ (15 : Int32) < own_hx_0 c ∧ (c = own_ch own_U (own_hx_0 c) ∨ c = own_ch own_L (own_hx_0 c))) := by
    by_cases h : c.toInt < 128
    · obtain ⟨k, rfl⟩ := own_nat c 128 (by decide) h0 h
      exact own_f128 k
    · exact Or.inl (own_hbig c (by omega))
  subst hv
  rcases key with q | ⟨q1, q2, q3 | q3⟩
  · rw [if_pos q]; decide
  · by_cases q : own_hx_0 c = (-1 : Int32)
    · rw [if_pos q]; decide
    · rw [if_neg q, if_neg q1, if_neg q2, if_pos q3]; decide
  · by_cases q : own_hx_0 c = (-1 : Int32)
    · rw [if_pos q]; decide
    · rw [if_neg q, if_neg q1, if_neg q2]
      by_cases r : c = own_ch own_U (own_hx_0 c)
      · rw [if_pos r]; decide
      · rw [if_neg r, if_pos q3]; decide
theorem own_dv (d : Int32) : ¬ (d &&& (15 : Int32)) < (0 : Int32) ∧ (d &&& (15 : Int32)) < (16 : Int32) := by
  have h1 := c_mask d 15 4 (by decide) (by decide)
  simp only [Int32.lt_iff_toInt_lt]
  have e0 : (0 : Int32).toInt = 0 := by decide
  have e1 : (16 : Int32).toInt = 16 := by decide
  omega
theorem own_dig (d v h : Int32) (hh : h = if v = (0 : Int32) then (own_ch own_U (d &&& (15 : Int32))) else (own_ch own_L (d &&& (15 : Int32)))) : own_hx_0 h = (d &&& (15 : Int32)) := by
  have h1 := c_mask d 15 4 (by decide) (by decide)
  obtain ⟨k, hk⟩ := own_nat (d &&& 15) 16 (by decide) (by omega) (by omega)
  have := own_f16 k
  rw [← hk] at this
  subst hh
  split
  · exact this.1
  · exact this.2
theorem own_r16 (r : Int32) (h : ¬ (15 : Int32) < r) : r < (16 : Int32) := by
  rw [Int32.lt_iff_toInt_lt] at h ⊢
  have e0 : (15 : Int32).toInt = 15 := by decide
  have e1 : (16 : Int32).toInt = 16 := by decide
  omega
theorem own_atoms {a0 : Array Value} {Z : State} (hw : ∀ d ∈ tables_1, d.before a0 Z = true) : ∀ a ∈ Bundle.stringAtoms, a.before a0 Z = true := fun d hd =>
  hw d (show d ∈ tables_1 from List.mem_cons_of_mem _ (List.mem_append_left (tables_1.drop 8) hd))
theorem pd_4 : parseMethodDescriptor "(C)I" = some ⟨[.char], some .int⟩ := by decide +kernel
theorem pd_5 : parseMethodDescriptor "(I)C" = some ⟨[.int], some .char⟩ := by decide +kernel
theorem pn_4 : plainName "com/example/fpi_to_urn/fpitourn/PercentEscapesHexValuePinLaw" = true := by first | (simp [plainName, overriddenIn]; done) | decide +kernel
theorem ef_0 (m : MethodId) (x0 : Int32) (x1 : Int32) : entryFrame m #[(.int x0), (.int x1)] maxLocals = mkF m 0 #[.val (.int x0), .val (.int x1), .unset, .unset, .unset, .unset, .unset, .unset, .unset, .unset, .unset] [] := by first | (simp [entryFrame, mkF, argsToLocals, Value.category, maxLocals]; done) | rfl
def Q0 (Z : State) (i1 : Int32) (i2 : Int32) (cz : Int32) (fz : Value) (h0 : Heap) (n0 : Nat) (v : Option Value) (h : Heap) (L : List Loc) : Prop := v = some (.int 1) ∧ Fr n0 L
set_option maxRecDepth 65536 in
set_option maxHeartbeats 40000000 in
theorem rm0 (l : Launch) (Z : State) (a0 : Array Value) (hw : ∀ d ∈ tables_1, d.before a0 Z = true) (ws : List Jvm.Cond) (i1 : Int32) (i2 : Int32) (cz : Int32) (fz : Value) (h0 : Heap) (n0 : Nat) (Z0 : n0 ≤ h0.size) (S_COMPACT_STRINGS : Sta Z h0 "java/lang/String" "COMPACT_STRINGS" "Z" (.int cz)) (S_SIOOBE_FORMATTER : Sta Z h0 "jdk/internal/util/Preconditions" "SIOOBE_FORMATTER" "Ljava/util/function/BiFunction;" fz) (hcz : ¬ cz = (0 : Int32)) (hfz : fz.isRef = true) (hH7 : Jvm.Lit.constHeld Z "com/example/fpi_to_urn/fpitourn/PercentEscapesHexValuePinLaw" 7) (hH9 : Jvm.Lit.constHeld Z "com/example/fpi_to_urn/fpitourn/PercentEscapesHexValuePinLaw" 9) (hcw : Jvm.Lit.compactW.before a0 Z = true) :
    MetFree l x (head1 (Jvm.Cond.code x code maxLocals ret :: ws) room_1) (fun a U => a = #[(.int i1), (.int i2)] ∧ Z = U ∧ U.heap = h0) (fun _ _ _ _ _ => True) (fun _ U o U' => ∃ v L, o = .returned v ∧ Q0 Z i1 i2 cz fz h0 n0 v U'.heap L ∧ ReturnedEndW U o U' L room_1.cells room_1.slots) := by
  refine MetFree.of_bodySF (plainFor_of_name pn_4) hisR ?_
  intro p e s m args below meth c s₁ Bd hml0 hP hK
  obtain ⟨rfl, hZU, hh⟩ := hP
  have hZ : Z.Warmed39 s.vm := hZU ▸ State.Warmed39.refl Z
  have hx := Bd.exec
  have hby := Bd.bytes
  have hlk : meth.locks = false := BodyLoose.notSynchronized Bd
  have hml : c.maxLocals = 11 := hml0
  have hown : s.vm.findClass "com/example/fpi_to_urn/fpitourn/PercentEscapesHexValuePinLaw" = some m.cls := findClass_of_methodNamed Bd.named
  have hnm := (name_of_methodNamed Bd.named Bd.method).1
  have X0 : Stand p l e room_1 s m #[(.int i1), (.int i2)] below meth c s₁ [] 0 0 := Stand.of_body Bd
  have e0 : s₁.heap = h0 := by rw [← hh, Bd.state]; rfl
  have N0 := Fr.nil n0
  show own_GoesW p e below s (Q0 Z i1 i2 cz fz h0 n0) room_1.cells room_1.slots s₁ (entryFrame m #[(.int i1), (.int i2)] maxLocals)
  rw [ef_0 m i1 i2]
  obtain ⟨b1, T1, h1, k1, y1, kb1, X1, e1, E1, hS1, hk1, hZ1, hown1, PE1, PC1, PV1, PA1, -, -, IB1, st1⟩ := ldcSV (s := s) (show Stand p l e room_1 (s.setVm s.vm) m #[(.int i1), (.int i2)] below meth c s₁ [] 0 0 from X0) hx hZ hown (hw _ (List.mem_of_getElem? (i := 0) rfl)) (own_atoms hw) e0 ((State.WarmedH.refl s).since 0) (Nat.zero_le _) (Fr.nil _) (fun b cl q => hZU ▸ q) (Ts := []) (hZU ▸ IB.start) (fun q => nomatch q) hH7 hcw (vs := (own_U.map Value.int)) (z := 16) ⟨by decide, by decide⟩ (by decide) (by decide) (g := (mkF m 0 #[.val (.int i1), .val (.int i2), .unset, .unset, .unset, .unset, .unset, .unset, .unset, .unset, .unset] [])) rfl (hb hby at_0) (n := 64) (by decide) (by decide) (by decide) (by decide)
  refine own_stepW (f' := (mkF m 2 #[.val (.int i1), .val (.int i2), .unset, .unset, .unset, .unset, .unset, .unset, .unset, .unset, .unset] [(.ref b1)])) st1 ?_
  refine own_stepW (f' := (mkF m 3 #[.val (.int i1), .val (.int i2), .val (.ref b1), .unset, .unset, .unset, .unset, .unset, .unset, .unset, .unset] [])) (fun _ k => XS.astoreN X1.here hx rfl (hb hby at_2) rfl rfl (l' := #[.val (.int i1), .val (.int i2), .val (.ref b1), .unset, .unset, .unset, .unset, .unset, .unset, .unset, .unset]) rfl k) ?_
  obtain ⟨b2, T2, h2, k2, y2, kb2, X2, e2, E2, hS2, hk2, hZ2, hown2, PE2, PC2, PV2, PA2, -, -, IB2, st2⟩ := ldcSV (s := s) X1 hx hZ1 hown1 (hw _ (List.mem_of_getElem? (i := 8) rfl)) (own_atoms hw) e1 hS1 hk1 (Fr.nil _) (fun b cl q => hZU ▸ q) IB1 (by decide) hH9 hcw (vs := (own_L.map Value.int)) (z := 16) ⟨by decide, by decide⟩ (by decide) (by decide) (g := (mkF m 3 #[.val (.int i1), .val (.int i2), .val (.ref b1), .unset, .unset, .unset, .unset, .unset, .unset, .unset, .unset] [])) rfl (hb hby at_3) (n := 64) (by decide) (by decide) (by decide) (by decide)
  refine own_stepW (f' := (mkF m 5 #[.val (.int i1), .val (.int i2), .val (.ref b1), .unset, .unset, .unset, .unset, .unset, .unset, .unset, .unset] [(.ref b2)])) st2 ?_
  refine own_stepW (f' := (mkF m 6 #[.val (.int i1), .val (.int i2), .val (.ref b1), .val (.ref b2), .unset, .unset, .unset, .unset, .unset, .unset, .unset] [])) (fun _ k => XS.astoreN X2.here hx rfl (hb hby at_5) rfl rfl (l' := #[.val (.int i1), .val (.int i2), .val (.ref b1), .val (.ref b2), .unset, .unset, .unset, .unset, .unset, .unset, .unset]) rfl k) ?_
  refine own_stepW (f' := (mkF m 7 #[.val (.int i1), .val (.int i2), .val (.ref b1), .val (.ref b2), .unset, .unset, .unset, .unset, .unset, .unset, .unset] [(.int i1)])) (fun _ k => XS.iloadN X2.here hx rfl (hb hby at_6) rfl k) ?_
  refine own_stepW (f' := (mkF m 8 #[.val (.int i1), .val (.int i2), .val (.ref b1), .val (.ref b2), .unset, .unset, .unset, .unset, .unset, .unset, .unset] [(.int (i1.toUInt32.toUInt16.toUInt32.toInt32))])) (fun _ k => XS.i2c X2.here hx rfl (hb hby at_7) rfl k) ?_
  refine own_stepW (f' := (mkF m 10 #[.val (.int i1), .val (.int i2), .val (.ref b1), .val (.ref b2), .val (.int (i1.toUInt32.toUInt16.toUInt32.toInt32)), .unset, .unset, .unset, .unset, .unset, .unset] [])) (fun _ k => XS.istore X2.here hx rfl (hb hby at_8) rfl (l' := #[.val (.int i1), .val (.int i2), .val (.ref b1), .val (.ref b2), .val (.int (i1.toUInt32.toUInt16.toUInt32.toInt32)), .unset, .unset, .unset, .unset, .unset, .unset]) rfl k) ?_
  refine own_stepW (f' := (mkF m 12 #[.val (.int i1), .val (.int i2), .val (.ref b1), .val (.ref b2), .val (.int (i1.toUInt32.toUInt16.toUInt32.toInt32)), .unset, .unset, .unset, .unset, .unset, .unset] [(.int (i1.toUInt32.toUInt16.toUInt32.toInt32))])) (fun _ k => XS.iload X2.here hx rfl (hb hby at_10) rfl k) ?_
  have Zq3 : n0 ≤ h2.size := (Nat.le_trans (Nat.le_trans Z0 E1.1) E2.1)
  obtain ⟨_, _, ⟨T3, L3, k3, n3⟩, -, X3, ⟨Lc3, hQ3, l3, y3, z3⟩, st3⟩ := Jvm.LawKit.callS X2 hx (y := (⟨"com/example/fpi_to_urn/fpitourn/PercentEscapes", "hexValue", "(C)I"⟩ : MethodName)) hown2 (mvT hZ2 (hw _ (List.mem_of_getElem? (i := 9) rfl))) (mvT hZ2 (hw _ (List.mem_of_getElem? (i := 10) rfl))) (mvT hZ2 (hw _ (List.mem_of_getElem? (i := 11) rfl))) (mvT hZ2 (hw _ (List.mem_of_getElem? (i := 12) rfl))) (by decide) (backOf (W := 0) (rm1 l Z a0 hw [] (i1.toUInt32.toUInt16.toUInt32.toInt32) h2 n0 Zq3 ) hZ2 (hw _ (List.mem_of_getElem? (i := 12) rfl)) (hw _ (List.mem_of_getElem? (i := 11) rfl)) (by decide) (by decide)) (g := (mkF m 12 #[.val (.int i1), .val (.int i2), .val (.ref b1), .val (.ref b2), .val (.int (i1.toUInt32.toUInt16.toUInt32.toInt32)), .unset, .unset, .unset, .unset, .unset, .unset] [(.int (i1.toUInt32.toUInt16.toUInt32.toInt32))])) rfl (by rw [hml]; rfl) (argsL := [(.int (i1.toUInt32.toUInt16.toUInt32.toInt32))]) (rest := []) (lenOf pd_4 rfl) rfl (by show 2 * 0 + _ ≤ _; exact Nat.le_of_eq rfl) (hb hby at_12) (fun _ _ => ⟨rfl, e2, (by decide : 4 + 0 ≤ _), (by decide : 136 + 0 ≤ _)⟩)
  dsimp only [Pt.U, Pt.locs, Pt.cells, Pt.slots] at X3 l3 y3 z3 st3 hQ3
  subst l3 y3 z3
  obtain ⟨rfl, rfl, e3⟩ := hQ3
  try rw [List.append_nil] at X3
  refine own_stepW (f' := (mkF m 15 #[.val (.int i1), .val (.int i2), .val (.ref b1), .val (.ref b2), .val (.int (i1.toUInt32.toUInt16.toUInt32.toInt32)), .unset, .unset, .unset, .unset, .unset, .unset] [(.int (own_hx_0 (i1.toUInt32.toUInt16.toUInt32.toInt32)))])) st3 ?_
  refine own_stepW (f' := (mkF m 17 #[.val (.int i1), .val (.int i2), .val (.ref b1), .val (.ref b2), .val (.int (i1.toUInt32.toUInt16.toUInt32.toInt32)), .val (.int (own_hx_0 (i1.toUInt32.toUInt16.toUInt32.toInt32))), .unset, .unset, .unset, .unset, .unset] [])) (fun _ k => XS.istore X3.here hx rfl (hb hby at_15) rfl (l' := #[.val (.int i1), .val (.int i2), .val (.ref b1), .val (.ref b2), .val (.int (i1.toUInt32.toUInt16.toUInt32.toInt32)), .val (.int (own_hx_0 (i1.toUInt32.toUInt16.toUInt32.toInt32))), .unset, .unset, .unset, .unset, .unset]) rfl k) ?_
  refine own_stepW (f' := (mkF m 19 #[.val (.int i1), .val (.int i2), .val (.ref b1), .val (.ref b2), .val (.int (i1.toUInt32.toUInt16.toUInt32.toInt32)), .val (.int (own_hx_0 (i1.toUInt32.toUInt16.toUInt32.toInt32))), .unset, .unset, .unset, .unset, .unset] [(.int (own_hx_0 (i1.toUInt32.toUInt16.toUInt32.toInt32)))])) (fun _ k => XS.iload X3.here hx rfl (hb hby at_17) rfl k) ?_
  refine own_stepW (f' := (mkF m 20 #[.val (.int i1), .val (.int i2), .val (.ref b1), .val (.ref b2), .val (.int (i1.toUInt32.toUInt16.toUInt32.toInt32)), .val (.int (own_hx_0 (i1.toUInt32.toUInt16.toUInt32.toInt32))), .unset, .unset, .unset, .unset, .unset] [(.int (-1 : Int32)), (.int (own_hx_0 (i1.toUInt32.toUInt16.toUInt32.toInt32)))])) (fun _ k => XS.iconst X3.here hx rfl (hb hby at_19) k) ?_
  have J20_11 : ∀ (T20_11 : State) (v20_11_s0 : Int32), Stand p l e room_1 (s.setVm T2.vm) m #[(.int i1), (.int i2)] below meth c T20_11 [] 4 136 → T20_11.heap = h2 → v20_11_s0 = (if (own_hx_0 (i1.toUInt32.toUInt16.toUInt32.toInt32)) = (-1 : Int32) then (1 : Int32) else (if (own_hx_0 (i1.toUInt32.toUInt16.toUInt32.toInt32)) < (0 : Int32) then (0 : Int32) else (if (15 : Int32) < (own_hx_0 (i1.toUInt32.toUInt16.toUInt32.toInt32)) then (0 : Int32) else (if (i1.toUInt32.toUInt16.toUInt32.toInt32) = (own_ch own_U (own_hx_0 (i1.toUInt32.toUInt16.toUInt32.toInt32))) then (1 : Int32) else (if (i1.toUInt32.toUInt16.toUInt32.toInt32) = (own_ch own_L (own_hx_0 (i1.toUInt32.toUInt16.toUInt32.toInt32))) then (1 : Int32) else (0 : Int32)))))) → own_GoesW p e below s (Q0 Z i1 i2 cz fz h0 n0) room_1.cells room_1.slots T20_11 (mkF m 62 #[.val (.int i1), .val (.int i2), .val (.ref b1), .val (.ref b2), .val (.int (i1.toUInt32.toUInt16.toUInt32.toInt32)), .val (.int (own_hx_0 (i1.toUInt32.toUInt16.toUInt32.toInt32))), .unset, .unset, .unset, .unset, .unset] [(.int v20_11_s0)]) := by
    intro T20_11 v20_11_s0 X20_11 e20_11 hv20_11_0
    have hany := own_any _ _ (c_i2c i1).2.1 hv20_11_0
    refine own_stepW (f' := (mkF m 64 #[.val (.int i1), .val (.int i2), .val (.ref b1), .val (.ref b2), .val (.int (i1.toUInt32.toUInt16.toUInt32.toInt32)), .val (.int (own_hx_0 (i1.toUInt32.toUInt16.toUInt32.toInt32))), .val (.int v20_11_s0), .unset, .unset, .unset, .unset] [])) (fun _ k => XS.istore X20_11.here hx rfl (hb hby at_62) rfl (l' := #[.val (.int i1), .val (.int i2), .val (.ref b1), .val (.ref b2), .val (.int (i1.toUInt32.toUInt16.toUInt32.toInt32)), .val (.int (own_hx_0 (i1.toUInt32.toUInt16.toUInt32.toInt32))), .val (.int v20_11_s0), .unset, .unset, .unset, .unset]) rfl k) ?_
    refine own_stepW (f' := (mkF m 65 #[.val (.int i1), .val (.int i2), .val (.ref b1), .val (.ref b2), .val (.int (i1.toUInt32.toUInt16.toUInt32.toInt32)), .val (.int (own_hx_0 (i1.toUInt32.toUInt16.toUInt32.toInt32))), .val (.int v20_11_s0), .unset, .unset, .unset, .unset] [(.int i2)])) (fun _ k => XS.iloadN X20_11.here hx rfl (hb hby at_64) rfl k) ?_
    refine own_stepW (f' := (mkF m 67 #[.val (.int i1), .val (.int i2), .val (.ref b1), .val (.ref b2), .val (.int (i1.toUInt32.toUInt16.toUInt32.toInt32)), .val (.int (own_hx_0 (i1.toUInt32.toUInt16.toUInt32.toInt32))), .val (.int v20_11_s0), .unset, .unset, .unset, .unset] [(.int (15 : Int32)), (.int i2)])) (fun _ k => XS.bipush X20_11.here hx rfl (hb hby at_65) k) ?_
    refine own_stepW (f' := (mkF m 68 #[.val (.int i1), .val (.int i2), .val (.ref b1), .val (.ref b2), .val (.int (i1.toUInt32.toUInt16.toUInt32.toInt32)), .val (.int (own_hx_0 (i1.toUInt32.toUInt16.toUInt32.toInt32))), .val (.int v20_11_s0), .unset, .unset, .unset, .unset] [(.int (i2 &&& (15 : Int32)))])) (fun _ k => XS.iand X20_11.here hx rfl (hb hby at_67) rfl k) ?_
    refine own_stepW (f' := (mkF m 70 #[.val (.int i1), .val (.int i2), .val (.ref b1), .val (.ref b2), .val (.int (i1.toUInt32.toUInt16.toUInt32.toInt32)), .val (.int (own_hx_0 (i1.toUInt32.toUInt16.toUInt32.toInt32))), .val (.int v20_11_s0), .val (.int (i2 &&& (15 : Int32))), .unset, .unset, .unset] [])) (fun _ k => XS.istore X20_11.here hx rfl (hb hby at_68) rfl (l' := #[.val (.int i1), .val (.int i2), .val (.ref b1), .val (.ref b2), .val (.int (i1.toUInt32.toUInt16.toUInt32.toInt32)), .val (.int (own_hx_0 (i1.toUInt32.toUInt16.toUInt32.toInt32))), .val (.int v20_11_s0), .val (.int (i2 &&& (15 : Int32))), .unset, .unset, .unset]) rfl k) ?_
    refine own_stepW (f' := (mkF m 71 #[.val (.int i1), .val (.int i2), .val (.ref b1), .val (.ref b2), .val (.int (i1.toUInt32.toUInt16.toUInt32.toInt32)), .val (.int (own_hx_0 (i1.toUInt32.toUInt16.toUInt32.toInt32))), .val (.int v20_11_s0), .val (.int (i2 &&& (15 : Int32))), .unset, .unset, .unset] [(.int i2)])) (fun _ k => XS.iloadN X20_11.here hx rfl (hb hby at_70) rfl k) ?_
    refine own_stepW (f' := (mkF m 73 #[.val (.int i1), .val (.int i2), .val (.ref b1), .val (.ref b2), .val (.int (i1.toUInt32.toUInt16.toUInt32.toInt32)), .val (.int (own_hx_0 (i1.toUInt32.toUInt16.toUInt32.toInt32))), .val (.int v20_11_s0), .val (.int (i2 &&& (15 : Int32))), .unset, .unset, .unset] [(.int (16 : Int32)), (.int i2)])) (fun _ k => XS.bipush X20_11.here hx rfl (hb hby at_71) k) ?_
    refine own_stepW (f' := (mkF m 74 #[.val (.int i1), .val (.int i2), .val (.ref b1), .val (.ref b2), .val (.int (i1.toUInt32.toUInt16.toUInt32.toInt32)), .val (.int (own_hx_0 (i1.toUInt32.toUInt16.toUInt32.toInt32))), .val (.int v20_11_s0), .val (.int (i2 &&& (15 : Int32))), .unset, .unset, .unset] [(.int (i2 &&& (16 : Int32)))])) (fun _ k => XS.iand X20_11.here hx rfl (hb hby at_73) rfl k) ?_
    have J74_13 : ∀ (T74_13 : State) (v74_13_s0 : Int32), Stand p l e room_1 (s.setVm T2.vm) m #[(.int i1), (.int i2)] below meth c T74_13 [] 4 136 → T74_13.heap = h2 → v74_13_s0 = (if (i2 &&& (16 : Int32)) = (0 : Int32) then (0 : Int32) else (1 : Int32)) → own_GoesW p e below s (Q0 Z i1 i2 cz fz h0 n0) room_1.cells room_1.slots T74_13 (mkF m 82 #[.val (.int i1), .val (.int i2), .val (.ref b1), .val (.ref b2), .val (.int (i1.toUInt32.toUInt16.toUInt32.toInt32)), .val (.int (own_hx_0 (i1.toUInt32.toUInt16.toUInt32.toInt32))), .val (.int v20_11_s0), .val (.int (i2 &&& (15 : Int32))), .unset, .unset, .unset] [(.int v74_13_s0)]) := by
      intro T74_13 v74_13_s0 X74_13 e74_13 hv74_13_0
      refine own_stepW (f' := (mkF m 84 #[.val (.int i1), .val (.int i2), .val (.ref b1), .val (.ref b2), .val (.int (i1.toUInt32.toUInt16.toUInt32.toInt32)), .val (.int (own_hx_0 (i1.toUInt32.toUInt16.toUInt32.toInt32))), .val (.int v20_11_s0), .val (.int (i2 &&& (15 : Int32))), .val (.int v74_13_s0), .unset, .unset] [])) (fun _ k => XS.istore X74_13.here hx rfl (hb hby at_82) rfl (l' := #[.val (.int i1), .val (.int i2), .val (.ref b1), .val (.ref b2), .val (.int (i1.toUInt32.toUInt16.toUInt32.toInt32)), .val (.int (own_hx_0 (i1.toUInt32.toUInt16.toUInt32.toInt32))), .val (.int v20_11_s0), .val (.int (i2 &&& (15 : Int32))), .val (.int v74_13_s0), .unset, .unset]) rfl k) ?_
      refine own_stepW (f' := (mkF m 86 #[.val (.int i1), .val (.int i2), .val (.ref b1), .val (.ref b2), .val (.int (i1.toUInt32.toUInt16.toUInt32.toInt32)), .val (.int (own_hx_0 (i1.toUInt32.toUInt16.toUInt32.toInt32))), .val (.int v20_11_s0), .val (.int (i2 &&& (15 : Int32))), .val (.int v74_13_s0), .unset, .unset] [(.int v74_13_s0)])) (fun _ k => XS.iload X74_13.here hx rfl (hb hby at_84) rfl k) ?_
      have J86_17 : ∀ (T86_17 : State) (v86_17_s0 : Int32), Stand p l e room_1 (s.setVm T2.vm) m #[(.int i1), (.int i2)] below meth c T86_17 [] 4 136 → T86_17.heap = h2 → v86_17_s0 = (if v74_13_s0 = (0 : Int32) then (own_ch own_U (i2 &&& (15 : Int32))) else (own_ch own_L (i2 &&& (15 : Int32)))) → own_GoesW p e below s (Q0 Z i1 i2 cz fz h0 n0) room_1.cells room_1.slots T86_17 (mkF m 104 #[.val (.int i1), .val (.int i2), .val (.ref b1), .val (.ref b2), .val (.int (i1.toUInt32.toUInt16.toUInt32.toInt32)), .val (.int (own_hx_0 (i1.toUInt32.toUInt16.toUInt32.toInt32))), .val (.int v20_11_s0), .val (.int (i2 &&& (15 : Int32))), .val (.int v74_13_s0), .unset, .unset] [(.int v86_17_s0)]) := by
        intro T86_17 v86_17_s0 X86_17 e86_17 hv86_17_0
        have hdig := own_dig _ _ _ hv86_17_0
        refine own_stepW (f' := (mkF m 106 #[.val (.int i1), .val (.int i2), .val (.ref b1), .val (.ref b2), .val (.int (i1.toUInt32.toUInt16.toUInt32.toInt32)), .val (.int (own_hx_0 (i1.toUInt32.toUInt16.toUInt32.toInt32))), .val (.int v20_11_s0), .val (.int (i2 &&& (15 : Int32))), .val (.int v74_13_s0), .val (.int v86_17_s0), .unset] [])) (fun _ k => XS.istore X86_17.here hx rfl (hb hby at_104) rfl (l' := #[.val (.int i1), .val (.int i2), .val (.ref b1), .val (.ref b2), .val (.int (i1.toUInt32.toUInt16.toUInt32.toInt32)), .val (.int (own_hx_0 (i1.toUInt32.toUInt16.toUInt32.toInt32))), .val (.int v20_11_s0), .val (.int (i2 &&& (15 : Int32))), .val (.int v74_13_s0), .val (.int v86_17_s0), .unset]) rfl k) ?_
        refine own_stepW (f' := (mkF m 108 #[.val (.int i1), .val (.int i2), .val (.ref b1), .val (.ref b2), .val (.int (i1.toUInt32.toUInt16.toUInt32.toInt32)), .val (.int (own_hx_0 (i1.toUInt32.toUInt16.toUInt32.toInt32))), .val (.int v20_11_s0), .val (.int (i2 &&& (15 : Int32))), .val (.int v74_13_s0), .val (.int v86_17_s0), .unset] [(.int v86_17_s0)])) (fun _ k => XS.iload X86_17.here hx rfl (hb hby at_106) rfl k) ?_
        have Zq18 : n0 ≤ h2.size := (Nat.le_trans (Nat.le_trans Z0 E1.1) E2.1)
        obtain ⟨_, _, ⟨T18, L18, k18, n18⟩, -, X18, ⟨Lc18, hQ18, l18, y18, z18⟩, st18⟩ := Jvm.LawKit.callS X86_17 hx (y := (⟨"com/example/fpi_to_urn/fpitourn/PercentEscapes", "hexValue", "(C)I"⟩ : MethodName)) hown2 (mvT hZ2 (hw _ (List.mem_of_getElem? (i := 9) rfl))) (mvT hZ2 (hw _ (List.mem_of_getElem? (i := 10) rfl))) (mvT hZ2 (hw _ (List.mem_of_getElem? (i := 11) rfl))) (mvT hZ2 (hw _ (List.mem_of_getElem? (i := 12) rfl))) (by decide) (backOf (W := 0) (rm1 l Z a0 hw [] v86_17_s0 h2 n0 Zq18 ) hZ2 (hw _ (List.mem_of_getElem? (i := 12) rfl)) (hw _ (List.mem_of_getElem? (i := 11) rfl)) (by decide) (by decide)) (g := (mkF m 108 #[.val (.int i1), .val (.int i2), .val (.ref b1), .val (.ref b2), .val (.int (i1.toUInt32.toUInt16.toUInt32.toInt32)), .val (.int (own_hx_0 (i1.toUInt32.toUInt16.toUInt32.toInt32))), .val (.int v20_11_s0), .val (.int (i2 &&& (15 : Int32))), .val (.int v74_13_s0), .val (.int v86_17_s0), .unset] [(.int v86_17_s0)])) rfl (by rw [hml]; rfl) (argsL := [(.int v86_17_s0)]) (rest := []) (lenOf pd_4 rfl) rfl (by show 2 * 0 + _ ≤ _; exact Nat.le_of_eq rfl) (hb hby at_108) (fun _ _ => ⟨rfl, e86_17, (by decide : 4 + 0 ≤ _), (by decide : 136 + 0 ≤ _)⟩)
        dsimp only [Pt.U, Pt.locs, Pt.cells, Pt.slots] at X18 l18 y18 z18 st18 hQ18
        subst l18 y18 z18
        obtain ⟨rfl, rfl, e18⟩ := hQ18
        try rw [List.append_nil] at X18
        refine own_stepW (f' := (mkF m 111 #[.val (.int i1), .val (.int i2), .val (.ref b1), .val (.ref b2), .val (.int (i1.toUInt32.toUInt16.toUInt32.toInt32)), .val (.int (own_hx_0 (i1.toUInt32.toUInt16.toUInt32.toInt32))), .val (.int v20_11_s0), .val (.int (i2 &&& (15 : Int32))), .val (.int v74_13_s0), .val (.int v86_17_s0), .unset] [(.int (own_hx_0 v86_17_s0))])) st18 ?_
        refine own_stepW (f' := (mkF m 113 #[.val (.int i1), .val (.int i2), .val (.ref b1), .val (.ref b2), .val (.int (i1.toUInt32.toUInt16.toUInt32.toInt32)), .val (.int (own_hx_0 (i1.toUInt32.toUInt16.toUInt32.toInt32))), .val (.int v20_11_s0), .val (.int (i2 &&& (15 : Int32))), .val (.int v74_13_s0), .val (.int v86_17_s0), .unset] [(.int (i2 &&& (15 : Int32))), (.int (own_hx_0 v86_17_s0))])) (fun _ k => XS.iload X18.here hx rfl (hb hby at_111) rfl k) ?_
        have hf113_19 : (own_hx_0 v86_17_s0) = (i2 &&& (15 : Int32)) := hdig
        refine own_stepW (f' := (mkF m 116 #[.val (.int i1), .val (.int i2), .val (.ref b1), .val (.ref b2), .val (.int (i1.toUInt32.toUInt16.toUInt32.toInt32)), .val (.int (own_hx_0 (i1.toUInt32.toUInt16.toUInt32.toInt32))), .val (.int v20_11_s0), .val (.int (i2 &&& (15 : Int32))), .val (.int v74_13_s0), .val (.int v86_17_s0), .unset] [])) (fun _ k => XS.icmpNo X18.here hx rfl (hb hby at_113) rfl (teq hf113_19).2 k) ?_
        refine own_stepW (f' := (mkF m 117 #[.val (.int i1), .val (.int i2), .val (.ref b1), .val (.ref b2), .val (.int (i1.toUInt32.toUInt16.toUInt32.toInt32)), .val (.int (own_hx_0 (i1.toUInt32.toUInt16.toUInt32.toInt32))), .val (.int v20_11_s0), .val (.int (i2 &&& (15 : Int32))), .val (.int v74_13_s0), .val (.int v86_17_s0), .unset] [(.int (1 : Int32))])) (fun _ k => XS.iconst X18.here hx rfl (hb hby at_116) k) ?_
        refine own_stepW (f' := (mkF m 121 #[.val (.int i1), .val (.int i2), .val (.ref b1), .val (.ref b2), .val (.int (i1.toUInt32.toUInt16.toUInt32.toInt32)), .val (.int (own_hx_0 (i1.toUInt32.toUInt16.toUInt32.toInt32))), .val (.int v20_11_s0), .val (.int (i2 &&& (15 : Int32))), .val (.int v74_13_s0), .val (.int v86_17_s0), .unset] [(.int (1 : Int32))])) (fun _ k => XS.goto X18.here hx rfl (pc0 := 117) (pc' := 121) rfl (hb hby at_117) (by decide) (by decide) k) ?_
        refine own_stepW (f' := (mkF m 123 #[.val (.int i1), .val (.int i2), .val (.ref b1), .val (.ref b2), .val (.int (i1.toUInt32.toUInt16.toUInt32.toInt32)), .val (.int (own_hx_0 (i1.toUInt32.toUInt16.toUInt32.toInt32))), .val (.int v20_11_s0), .val (.int (i2 &&& (15 : Int32))), .val (.int v74_13_s0), .val (.int v86_17_s0), .val (.int (1 : Int32))] [])) (fun _ k => XS.istore X18.here hx rfl (hb hby at_121) rfl (l' := #[.val (.int i1), .val (.int i2), .val (.ref b1), .val (.ref b2), .val (.int (i1.toUInt32.toUInt16.toUInt32.toInt32)), .val (.int (own_hx_0 (i1.toUInt32.toUInt16.toUInt32.toInt32))), .val (.int v20_11_s0), .val (.int (i2 &&& (15 : Int32))), .val (.int v74_13_s0), .val (.int v86_17_s0), .val (.int (1 : Int32))]) rfl k) ?_
        refine own_stepW (f' := (mkF m 125 #[.val (.int i1), .val (.int i2), .val (.ref b1), .val (.ref b2), .val (.int (i1.toUInt32.toUInt16.toUInt32.toInt32)), .val (.int (own_hx_0 (i1.toUInt32.toUInt16.toUInt32.toInt32))), .val (.int v20_11_s0), .val (.int (i2 &&& (15 : Int32))), .val (.int v74_13_s0), .val (.int v86_17_s0), .val (.int (1 : Int32))] [(.int v20_11_s0)])) (fun _ k => XS.iload X18.here hx rfl (hb hby at_123) rfl k) ?_
        have hf125_20 : ¬ (v20_11_s0 = (0 : Int32)) := hany
        refine own_stepW (f' := (mkF m 128 #[.val (.int i1), .val (.int i2), .val (.ref b1), .val (.ref b2), .val (.int (i1.toUInt32.toUInt16.toUInt32.toInt32)), .val (.int (own_hx_0 (i1.toUInt32.toUInt16.toUInt32.toInt32))), .val (.int v20_11_s0), .val (.int (i2 &&& (15 : Int32))), .val (.int v74_13_s0), .val (.int v86_17_s0), .val (.int (1 : Int32))] [])) (fun _ k => XS.ifNo X18.here hx rfl (hb hby at_125) rfl ((if0 _ _).trans (feq hf125_20).1) k) ?_
        refine own_stepW (f' := (mkF m 130 #[.val (.int i1), .val (.int i2), .val (.ref b1), .val (.ref b2), .val (.int (i1.toUInt32.toUInt16.toUInt32.toInt32)), .val (.int (own_hx_0 (i1.toUInt32.toUInt16.toUInt32.toInt32))), .val (.int v20_11_s0), .val (.int (i2 &&& (15 : Int32))), .val (.int v74_13_s0), .val (.int v86_17_s0), .val (.int (1 : Int32))] [(.int (1 : Int32))])) (fun _ k => XS.iload X18.here hx rfl (hb hby at_128) rfl k) ?_
        refine own_stepW (f' := (mkF m 133 #[.val (.int i1), .val (.int i2), .val (.ref b1), .val (.ref b2), .val (.int (i1.toUInt32.toUInt16.toUInt32.toInt32)), .val (.int (own_hx_0 (i1.toUInt32.toUInt16.toUInt32.toInt32))), .val (.int v20_11_s0), .val (.int (i2 &&& (15 : Int32))), .val (.int v74_13_s0), .val (.int v86_17_s0), .val (.int (1 : Int32))] [])) (fun _ k => XS.ifNo X18.here hx rfl (hb hby at_130) rfl ((if0 _ _).trans (feq (by decide : ¬ ((1 : Int32) = (0 : Int32)))).1) k) ?_
        refine own_stepW (f' := (mkF m 134 #[.val (.int i1), .val (.int i2), .val (.ref b1), .val (.ref b2), .val (.int (i1.toUInt32.toUInt16.toUInt32.toInt32)), .val (.int (own_hx_0 (i1.toUInt32.toUInt16.toUInt32.toInt32))), .val (.int v20_11_s0), .val (.int (i2 &&& (15 : Int32))), .val (.int v74_13_s0), .val (.int v86_17_s0), .val (.int (1 : Int32))] [(.int (1 : Int32))])) (fun _ k => XS.iconst X18.here hx rfl (hb hby at_133) k) ?_
        refine own_stepW (f' := (mkF m 138 #[.val (.int i1), .val (.int i2), .val (.ref b1), .val (.ref b2), .val (.int (i1.toUInt32.toUInt16.toUInt32.toInt32)), .val (.int (own_hx_0 (i1.toUInt32.toUInt16.toUInt32.toInt32))), .val (.int v20_11_s0), .val (.int (i2 &&& (15 : Int32))), .val (.int v74_13_s0), .val (.int v86_17_s0), .val (.int (1 : Int32))] [(.int (1 : Int32))])) (fun _ k => XS.goto X18.here hx rfl (pc0 := 134) (pc' := 138) rfl (hb hby at_134) (by decide) (by decide) k) ?_
        refine own_outW (v := some (.int (1 : Int32))) X18 hS2 (by rw [e18]; exact hk2) hlk (fun h => by rw [Bd.returns] at h; cases h) (fun fs hr => retN X18 hx (t := .boolean) Bd.returns (by simp) (hb hby at_138) hr) (by decide) (by decide) ?_
        exact ⟨rfl, N0⟩
      by_cases hc86_14 : v74_13_s0 = (0 : Int32)
      · refine own_stepW (f' := (mkF m 98 #[.val (.int i1), .val (.int i2), .val (.ref b1), .val (.ref b2), .val (.int (i1.toUInt32.toUInt16.toUInt32.toInt32)), .val (.int (own_hx_0 (i1.toUInt32.toUInt16.toUInt32.toInt32))), .val (.int v20_11_s0), .val (.int (i2 &&& (15 : Int32))), .val (.int v74_13_s0), .unset, .unset] [])) (fun _ k => XS.ifYes X74_13.here hx rfl (pc0 := 86) (pc' := 98) rfl (hb hby at_86) rfl ((if0 _ _).trans (teq hc86_14).1) (by decide) (by decide) k) ?_
        refine own_stepW (f' := (mkF m 99 #[.val (.int i1), .val (.int i2), .val (.ref b1), .val (.ref b2), .val (.int (i1.toUInt32.toUInt16.toUInt32.toInt32)), .val (.int (own_hx_0 (i1.toUInt32.toUInt16.toUInt32.toInt32))), .val (.int v20_11_s0), .val (.int (i2 &&& (15 : Int32))), .val (.int v74_13_s0), .unset, .unset] [(.ref b1)])) (fun _ k => XS.aloadN X74_13.here hx rfl (hb hby at_98) rfl rfl k) ?_
        refine own_stepW (f' := (mkF m 101 #[.val (.int i1), .val (.int i2), .val (.ref b1), .val (.ref b2), .val (.int (i1.toUInt32.toUInt16.toUInt32.toInt32)), .val (.int (own_hx_0 (i1.toUInt32.toUInt16.toUInt32.toInt32))), .val (.int v20_11_s0), .val (.int (i2 &&& (15 : Int32))), .val (.int v74_13_s0), .unset, .unset] [(.int (i2 &&& (15 : Int32))), (.ref b1)])) (fun _ k => XS.iload X74_13.here hx rfl (hb hby at_99) rfl k) ?_
        have hp1015_hcz : ¬ cz = (0 : Int32) := hcz
        have hp1015_hfz : fz.isRef = true := hfz
        have hp1015_hi : ¬ (i2 &&& (15 : Int32)) < (0 : Int32) ∧ (i2 &&& (15 : Int32)) < (16 : Int32) := own_dv i2
        have Zq1015 : n0 ≤ h2.size := (Nat.le_trans (Nat.le_trans Z0 E1.1) E2.1)
        obtain ⟨cq1015, kq1015, q1015a, q1015b, q1015c⟩ := isOf hZ2 e74_13 (PE1.ext E2)
        obtain ⟨_, _, ⟨T1015, L1015, k1015, n1015⟩, -, X1015, ⟨Lc1015, hQ1015, l1015, y1015, z1015⟩, st1015⟩ := X74_13.virtualBack hx (y := (⟨"java/lang/String", "charAt", "(I)C"⟩ : MethodName)) (z := (⟨"java/lang/String", "charAt", "(I)C"⟩ : MethodName)) hown2 (mvT hZ2 (hw _ (List.mem_of_getElem? (i := 13) rfl))) (mvT hZ2 (hw _ (List.mem_of_getElem? (i := 14) rfl))) (notFace_of_selects (args := #[]) (mvT hZ2 (hw _ (List.mem_of_getElem? (i := 16) rfl)))) (mvT hZ2 (hw _ (List.mem_of_getElem? (i := 16) rfl))) (mvT hZ2 (hw _ (List.mem_of_getElem? (i := 15) rfl))) (by decide) (backOf (W := 0) (rm2 l Z a0 hw [] b1 (i2 &&& (15 : Int32)) y1 kb1 (16 : Int32) own_U cz fz h2 n0 Zq1015 (PE1.ext E2) (PC1.ext E2) (PV1.ext E2) (PA1.ext E2) ((S_COMPACT_STRINGS.ext E1).ext E2) ((S_SIOOBE_FORMATTER.ext E1).ext E2) hp1015_hcz hp1015_hfz hp1015_hi) hZ2 (hw _ (List.mem_of_getElem? (i := 17) rfl)) (hw _ (List.mem_of_getElem? (i := 1) rfl)) (by decide) (by decide)) q1015a q1015c (g := (mkF m 101 #[.val (.int i1), .val (.int i2), .val (.ref b1), .val (.ref b2), .val (.int (i1.toUInt32.toUInt16.toUInt32.toInt32)), .val (.int (own_hx_0 (i1.toUInt32.toUInt16.toUInt32.toInt32))), .val (.int v20_11_s0), .val (.int (i2 &&& (15 : Int32))), .val (.int v74_13_s0), .unset, .unset] [(.int (i2 &&& (15 : Int32))), (.ref b1)])) rfl (by rw [hml]; rfl) (Steps.refl _) (argsL := [(.int (i2 &&& (15 : Int32)))]) (rest := []) (lenOf pd_5 rfl) rfl (by show 2 * 0 + _ ≤ _; exact Nat.le_of_eq rfl) (hb hby at_101) (fun _ _ => ⟨rfl, e74_13, (by decide : 4 + 0 ≤ _), (by decide : 136 + 0 ≤ _)⟩)
        dsimp only [Pt.U, Pt.locs, Pt.cells, Pt.slots] at X1015 l1015 y1015 z1015 st1015 hQ1015
        subst l1015 y1015 z1015
        obtain ⟨rfl, rfl, e1015⟩ := hQ1015
        try rw [List.append_nil] at X1015
        refine own_jumpW (f' := (mkF m 104 #[.val (.int i1), .val (.int i2), .val (.ref b1), .val (.ref b2), .val (.int (i1.toUInt32.toUInt16.toUInt32.toInt32)), .val (.int (own_hx_0 (i1.toUInt32.toUInt16.toUInt32.toInt32))), .val (.int v20_11_s0), .val (.int (i2 &&& (15 : Int32))), .val (.int v74_13_s0), .unset, .unset] [(.int (own_ch own_U (i2 &&& (15 : Int32))))])) st1015 ?_
        exact J86_17 _ (own_ch own_U (i2 &&& (15 : Int32))) X1015 e1015 (by rw [if_pos hc86_14])
      · refine own_stepW (f' := (mkF m 89 #[.val (.int i1), .val (.int i2), .val (.ref b1), .val (.ref b2), .val (.int (i1.toUInt32.toUInt16.toUInt32.toInt32)), .val (.int (own_hx_0 (i1.toUInt32.toUInt16.toUInt32.toInt32))), .val (.int v20_11_s0), .val (.int (i2 &&& (15 : Int32))), .val (.int v74_13_s0), .unset, .unset] [])) (fun _ k => XS.ifNo X74_13.here hx rfl (hb hby at_86) rfl ((if0 _ _).trans (feq hc86_14).1) k) ?_
        refine own_stepW (f' := (mkF m 90 #[.val (.int i1), .val (.int i2), .val (.ref b1), .val (.ref b2), .val (.int (i1.toUInt32.toUInt16.toUInt32.toInt32)), .val (.int (own_hx_0 (i1.toUInt32.toUInt16.toUInt32.toInt32))), .val (.int v20_11_s0), .val (.int (i2 &&& (15 : Int32))), .val (.int v74_13_s0), .unset, .unset] [(.ref b2)])) (fun _ k => XS.aloadN X74_13.here hx rfl (hb hby at_89) rfl rfl k) ?_
        refine own_stepW (f' := (mkF m 92 #[.val (.int i1), .val (.int i2), .val (.ref b1), .val (.ref b2), .val (.int (i1.toUInt32.toUInt16.toUInt32.toInt32)), .val (.int (own_hx_0 (i1.toUInt32.toUInt16.toUInt32.toInt32))), .val (.int v20_11_s0), .val (.int (i2 &&& (15 : Int32))), .val (.int v74_13_s0), .unset, .unset] [(.int (i2 &&& (15 : Int32))), (.ref b2)])) (fun _ k => XS.iload X74_13.here hx rfl (hb hby at_90) rfl k) ?_
        have hp1016_hcz : ¬ cz = (0 : Int32) := hcz
        have hp1016_hfz : fz.isRef = true := hfz
        have hp1016_hi : ¬ (i2 &&& (15 : Int32)) < (0 : Int32) ∧ (i2 &&& (15 : Int32)) < (16 : Int32) := own_dv i2
        have Zq1016 : n0 ≤ h2.size := (Nat.le_trans (Nat.le_trans Z0 E1.1) E2.1)
        obtain ⟨cq1016, kq1016, q1016a, q1016b, q1016c⟩ := isOf hZ2 e74_13 PE2
        obtain ⟨_, _, ⟨T1016, L1016, k1016, n1016⟩, -, X1016, ⟨Lc1016, hQ1016, l1016, y1016, z1016⟩, st1016⟩ := X74_13.virtualBack hx (y := (⟨"java/lang/String", "charAt", "(I)C"⟩ : MethodName)) (z := (⟨"java/lang/String", "charAt", "(I)C"⟩ : MethodName)) hown2 (mvT hZ2 (hw _ (List.mem_of_getElem? (i := 13) rfl))) (mvT hZ2 (hw _ (List.mem_of_getElem? (i := 14) rfl))) (notFace_of_selects (args := #[]) (mvT hZ2 (hw _ (List.mem_of_getElem? (i := 16) rfl)))) (mvT hZ2 (hw _ (List.mem_of_getElem? (i := 16) rfl))) (mvT hZ2 (hw _ (List.mem_of_getElem? (i := 15) rfl))) (by decide) (backOf (W := 0) (rm2 l Z a0 hw [] b2 (i2 &&& (15 : Int32)) y2 kb2 (16 : Int32) own_L cz fz h2 n0 Zq1016 PE2 PC2 PV2 PA2 ((S_COMPACT_STRINGS.ext E1).ext E2) ((S_SIOOBE_FORMATTER.ext E1).ext E2) hp1016_hcz hp1016_hfz hp1016_hi) hZ2 (hw _ (List.mem_of_getElem? (i := 17) rfl)) (hw _ (List.mem_of_getElem? (i := 1) rfl)) (by decide) (by decide)) q1016a q1016c (g := (mkF m 92 #[.val (.int i1), .val (.int i2), .val (.ref b1), .val (.ref b2), .val (.int (i1.toUInt32.toUInt16.toUInt32.toInt32)), .val (.int (own_hx_0 (i1.toUInt32.toUInt16.toUInt32.toInt32))), .val (.int v20_11_s0), .val (.int (i2 &&& (15 : Int32))), .val (.int v74_13_s0), .unset, .unset] [(.int (i2 &&& (15 : Int32))), (.ref b2)])) rfl (by rw [hml]; rfl) (Steps.refl _) (argsL := [(.int (i2 &&& (15 : Int32)))]) (rest := []) (lenOf pd_5 rfl) rfl (by show 2 * 0 + _ ≤ _; exact Nat.le_of_eq rfl) (hb hby at_92) (fun _ _ => ⟨rfl, e74_13, (by decide : 4 + 0 ≤ _), (by decide : 136 + 0 ≤ _)⟩)
        dsimp only [Pt.U, Pt.locs, Pt.cells, Pt.slots] at X1016 l1016 y1016 z1016 st1016 hQ1016
        subst l1016 y1016 z1016
        obtain ⟨rfl, rfl, e1016⟩ := hQ1016
        try rw [List.append_nil] at X1016
        refine own_jumpW (f' := (mkF m 95 #[.val (.int i1), .val (.int i2), .val (.ref b1), .val (.ref b2), .val (.int (i1.toUInt32.toUInt16.toUInt32.toInt32)), .val (.int (own_hx_0 (i1.toUInt32.toUInt16.toUInt32.toInt32))), .val (.int v20_11_s0), .val (.int (i2 &&& (15 : Int32))), .val (.int v74_13_s0), .unset, .unset] [(.int (own_ch own_L (i2 &&& (15 : Int32))))])) st1016 ?_
        refine own_stepW (f' := (mkF m 104 #[.val (.int i1), .val (.int i2), .val (.ref b1), .val (.ref b2), .val (.int (i1.toUInt32.toUInt16.toUInt32.toInt32)), .val (.int (own_hx_0 (i1.toUInt32.toUInt16.toUInt32.toInt32))), .val (.int v20_11_s0), .val (.int (i2 &&& (15 : Int32))), .val (.int v74_13_s0), .unset, .unset] [(.int (own_ch own_L (i2 &&& (15 : Int32))))])) (fun _ k => XS.goto X1016.here hx rfl (pc0 := 95) (pc' := 104) rfl (hb hby at_95) (by decide) (by decide) k) ?_
        exact J86_17 _ (own_ch own_L (i2 &&& (15 : Int32))) X1016 e1016 (by rw [if_neg hc86_14])
    by_cases hc74_12 : (i2 &&& (16 : Int32)) = (0 : Int32)
    · refine own_stepW (f' := (mkF m 81 #[.val (.int i1), .val (.int i2), .val (.ref b1), .val (.ref b2), .val (.int (i1.toUInt32.toUInt16.toUInt32.toInt32)), .val (.int (own_hx_0 (i1.toUInt32.toUInt16.toUInt32.toInt32))), .val (.int v20_11_s0), .val (.int (i2 &&& (15 : Int32))), .unset, .unset, .unset] [])) (fun _ k => XS.ifYes X20_11.here hx rfl (pc0 := 74) (pc' := 81) rfl (hb hby at_74) rfl ((if0 _ _).trans (teq hc74_12).1) (by decide) (by decide) k) ?_
      refine own_stepW (f' := (mkF m 82 #[.val (.int i1), .val (.int i2), .val (.ref b1), .val (.ref b2), .val (.int (i1.toUInt32.toUInt16.toUInt32.toInt32)), .val (.int (own_hx_0 (i1.toUInt32.toUInt16.toUInt32.toInt32))), .val (.int v20_11_s0), .val (.int (i2 &&& (15 : Int32))), .unset, .unset, .unset] [(.int (0 : Int32))])) (fun _ k => XS.iconst X20_11.here hx rfl (hb hby at_81) k) ?_
      exact J74_13 _ (0 : Int32) X20_11 e20_11 (by rw [if_pos hc74_12])
    · refine own_stepW (f' := (mkF m 77 #[.val (.int i1), .val (.int i2), .val (.ref b1), .val (.ref b2), .val (.int (i1.toUInt32.toUInt16.toUInt32.toInt32)), .val (.int (own_hx_0 (i1.toUInt32.toUInt16.toUInt32.toInt32))), .val (.int v20_11_s0), .val (.int (i2 &&& (15 : Int32))), .unset, .unset, .unset] [])) (fun _ k => XS.ifNo X20_11.here hx rfl (hb hby at_74) rfl ((if0 _ _).trans (feq hc74_12).1) k) ?_
      refine own_stepW (f' := (mkF m 78 #[.val (.int i1), .val (.int i2), .val (.ref b1), .val (.ref b2), .val (.int (i1.toUInt32.toUInt16.toUInt32.toInt32)), .val (.int (own_hx_0 (i1.toUInt32.toUInt16.toUInt32.toInt32))), .val (.int v20_11_s0), .val (.int (i2 &&& (15 : Int32))), .unset, .unset, .unset] [(.int (1 : Int32))])) (fun _ k => XS.iconst X20_11.here hx rfl (hb hby at_77) k) ?_
      refine own_stepW (f' := (mkF m 82 #[.val (.int i1), .val (.int i2), .val (.ref b1), .val (.ref b2), .val (.int (i1.toUInt32.toUInt16.toUInt32.toInt32)), .val (.int (own_hx_0 (i1.toUInt32.toUInt16.toUInt32.toInt32))), .val (.int v20_11_s0), .val (.int (i2 &&& (15 : Int32))), .unset, .unset, .unset] [(.int (1 : Int32))])) (fun _ k => XS.goto X20_11.here hx rfl (pc0 := 78) (pc' := 82) rfl (hb hby at_78) (by decide) (by decide) k) ?_
      exact J74_13 _ (1 : Int32) X20_11 e20_11 (by rw [if_neg hc74_12])
  by_cases hc20_4 : (own_hx_0 (i1.toUInt32.toUInt16.toUInt32.toInt32)) = (-1 : Int32)
  · refine own_stepW (f' := (mkF m 57 #[.val (.int i1), .val (.int i2), .val (.ref b1), .val (.ref b2), .val (.int (i1.toUInt32.toUInt16.toUInt32.toInt32)), .val (.int (own_hx_0 (i1.toUInt32.toUInt16.toUInt32.toInt32))), .unset, .unset, .unset, .unset, .unset] [])) (fun _ k => XS.icmpYes X3.here hx rfl (pc0 := 20) (pc' := 57) rfl (hb hby at_20) rfl (teq hc20_4).1 (by decide) (by decide) k) ?_
    refine own_stepW (f' := (mkF m 58 #[.val (.int i1), .val (.int i2), .val (.ref b1), .val (.ref b2), .val (.int (i1.toUInt32.toUInt16.toUInt32.toInt32)), .val (.int (own_hx_0 (i1.toUInt32.toUInt16.toUInt32.toInt32))), .unset, .unset, .unset, .unset, .unset] [(.int (1 : Int32))])) (fun _ k => XS.iconst X3.here hx rfl (hb hby at_57) k) ?_
    refine own_stepW (f' := (mkF m 62 #[.val (.int i1), .val (.int i2), .val (.ref b1), .val (.ref b2), .val (.int (i1.toUInt32.toUInt16.toUInt32.toInt32)), .val (.int (own_hx_0 (i1.toUInt32.toUInt16.toUInt32.toInt32))), .unset, .unset, .unset, .unset, .unset] [(.int (1 : Int32))])) (fun _ k => XS.goto X3.here hx rfl (pc0 := 58) (pc' := 62) rfl (hb hby at_58) (by decide) (by decide) k) ?_
    exact J20_11 _ (1 : Int32) X3 e3 (by rw [if_pos hc20_4])
  · refine own_stepW (f' := (mkF m 23 #[.val (.int i1), .val (.int i2), .val (.ref b1), .val (.ref b2), .val (.int (i1.toUInt32.toUInt16.toUInt32.toInt32)), .val (.int (own_hx_0 (i1.toUInt32.toUInt16.toUInt32.toInt32))), .unset, .unset, .unset, .unset, .unset] [])) (fun _ k => XS.icmpNo X3.here hx rfl (hb hby at_20) rfl (feq hc20_4).1 k) ?_
    refine own_stepW (f' := (mkF m 25 #[.val (.int i1), .val (.int i2), .val (.ref b1), .val (.ref b2), .val (.int (i1.toUInt32.toUInt16.toUInt32.toInt32)), .val (.int (own_hx_0 (i1.toUInt32.toUInt16.toUInt32.toInt32))), .unset, .unset, .unset, .unset, .unset] [(.int (own_hx_0 (i1.toUInt32.toUInt16.toUInt32.toInt32)))])) (fun _ k => XS.iload X3.here hx rfl (hb hby at_23) rfl k) ?_
    by_cases hc25_1005 : (own_hx_0 (i1.toUInt32.toUInt16.toUInt32.toInt32)) < (0 : Int32)
    · refine own_stepW (f' := (mkF m 61 #[.val (.int i1), .val (.int i2), .val (.ref b1), .val (.ref b2), .val (.int (i1.toUInt32.toUInt16.toUInt32.toInt32)), .val (.int (own_hx_0 (i1.toUInt32.toUInt16.toUInt32.toInt32))), .unset, .unset, .unset, .unset, .unset] [])) (fun _ k => XS.ifYes X3.here hx rfl (pc0 := 25) (pc' := 61) rfl (hb hby at_25) rfl ((if0 _ _).trans (tlt hc25_1005).1) (by decide) (by decide) k) ?_
      refine own_stepW (f' := (mkF m 62 #[.val (.int i1), .val (.int i2), .val (.ref b1), .val (.ref b2), .val (.int (i1.toUInt32.toUInt16.toUInt32.toInt32)), .val (.int (own_hx_0 (i1.toUInt32.toUInt16.toUInt32.toInt32))), .unset, .unset, .unset, .unset, .unset] [(.int (0 : Int32))])) (fun _ k => XS.iconst X3.here hx rfl (hb hby at_61) k) ?_
      exact J20_11 _ (0 : Int32) X3 e3 (by rw [if_neg hc20_4, if_pos hc25_1005])
    · refine own_stepW (f' := (mkF m 28 #[.val (.int i1), .val (.int i2), .val (.ref b1), .val (.ref b2), .val (.int (i1.toUInt32.toUInt16.toUInt32.toInt32)), .val (.int (own_hx_0 (i1.toUInt32.toUInt16.toUInt32.toInt32))), .unset, .unset, .unset, .unset, .unset] [])) (fun _ k => XS.ifNo X3.here hx rfl (hb hby at_25) rfl ((if0 _ _).trans (flt hc25_1005).1) k) ?_
      refine own_stepW (f' := (mkF m 30 #[.val (.int i1), .val (.int i2), .val (.ref b1), .val (.ref b2), .val (.int (i1.toUInt32.toUInt16.toUInt32.toInt32)), .val (.int (own_hx_0 (i1.toUInt32.toUInt16.toUInt32.toInt32))), .unset, .unset, .unset, .unset, .unset] [(.int (own_hx_0 (i1.toUInt32.toUInt16.toUInt32.toInt32)))])) (fun _ k => XS.iload X3.here hx rfl (hb hby at_28) rfl k) ?_
      refine own_stepW (f' := (mkF m 32 #[.val (.int i1), .val (.int i2), .val (.ref b1), .val (.ref b2), .val (.int (i1.toUInt32.toUInt16.toUInt32.toInt32)), .val (.int (own_hx_0 (i1.toUInt32.toUInt16.toUInt32.toInt32))), .unset, .unset, .unset, .unset, .unset] [(.int (15 : Int32)), (.int (own_hx_0 (i1.toUInt32.toUInt16.toUInt32.toInt32)))])) (fun _ k => XS.bipush X3.here hx rfl (hb hby at_30) k) ?_
      by_cases hc32_1006 : (15 : Int32) < (own_hx_0 (i1.toUInt32.toUInt16.toUInt32.toInt32))
      · refine own_stepW (f' := (mkF m 61 #[.val (.int i1), .val (.int i2), .val (.ref b1), .val (.ref b2), .val (.int (i1.toUInt32.toUInt16.toUInt32.toInt32)), .val (.int (own_hx_0 (i1.toUInt32.toUInt16.toUInt32.toInt32))), .unset, .unset, .unset, .unset, .unset] [])) (fun _ k => XS.icmpYes X3.here hx rfl (pc0 := 32) (pc' := 61) rfl (hb hby at_32) rfl (tlt hc32_1006).2.2.1 (by decide) (by decide) k) ?_
        refine own_stepW (f' := (mkF m 62 #[.val (.int i1), .val (.int i2), .val (.ref b1), .val (.ref b2), .val (.int (i1.toUInt32.toUInt16.toUInt32.toInt32)), .val (.int (own_hx_0 (i1.toUInt32.toUInt16.toUInt32.toInt32))), .unset, .unset, .unset, .unset, .unset] [(.int (0 : Int32))])) (fun _ k => XS.iconst X3.here hx rfl (hb hby at_61) k) ?_
        exact J20_11 _ (0 : Int32) X3 e3 (by rw [if_neg hc20_4, if_neg hc25_1005, if_pos hc32_1006])
      · refine own_stepW (f' := (mkF m 35 #[.val (.int i1), .val (.int i2), .val (.ref b1), .val (.ref b2), .val (.int (i1.toUInt32.toUInt16.toUInt32.toInt32)), .val (.int (own_hx_0 (i1.toUInt32.toUInt16.toUInt32.toInt32))), .unset, .unset, .unset, .unset, .unset] [])) (fun _ k => XS.icmpNo X3.here hx rfl (hb hby at_32) rfl (flt hc32_1006).2.2.1 k) ?_
        refine own_stepW (f' := (mkF m 37 #[.val (.int i1), .val (.int i2), .val (.ref b1), .val (.ref b2), .val (.int (i1.toUInt32.toUInt16.toUInt32.toInt32)), .val (.int (own_hx_0 (i1.toUInt32.toUInt16.toUInt32.toInt32))), .unset, .unset, .unset, .unset, .unset] [(.int (i1.toUInt32.toUInt16.toUInt32.toInt32))])) (fun _ k => XS.iload X3.here hx rfl (hb hby at_35) rfl k) ?_
        refine own_stepW (f' := (mkF m 38 #[.val (.int i1), .val (.int i2), .val (.ref b1), .val (.ref b2), .val (.int (i1.toUInt32.toUInt16.toUInt32.toInt32)), .val (.int (own_hx_0 (i1.toUInt32.toUInt16.toUInt32.toInt32))), .unset, .unset, .unset, .unset, .unset] [(.ref b1), (.int (i1.toUInt32.toUInt16.toUInt32.toInt32))])) (fun _ k => XS.aloadN X3.here hx rfl (hb hby at_37) rfl rfl k) ?_
        refine own_stepW (f' := (mkF m 40 #[.val (.int i1), .val (.int i2), .val (.ref b1), .val (.ref b2), .val (.int (i1.toUInt32.toUInt16.toUInt32.toInt32)), .val (.int (own_hx_0 (i1.toUInt32.toUInt16.toUInt32.toInt32))), .unset, .unset, .unset, .unset, .unset] [(.int (own_hx_0 (i1.toUInt32.toUInt16.toUInt32.toInt32))), (.ref b1), (.int (i1.toUInt32.toUInt16.toUInt32.toInt32))])) (fun _ k => XS.iload X3.here hx rfl (hb hby at_38) rfl k) ?_
        have hp1007_hcz : ¬ cz = (0 : Int32) := hcz
        have hp1007_hfz : fz.isRef = true := hfz
        have hp1007_hi : ¬ (own_hx_0 (i1.toUInt32.toUInt16.toUInt32.toInt32)) < (0 : Int32) ∧ (own_hx_0 (i1.toUInt32.toUInt16.toUInt32.toInt32)) < (16 : Int32) := ⟨hc25_1005, own_r16 _ hc32_1006⟩
        have Zq1007 : n0 ≤ h2.size := (Nat.le_trans (Nat.le_trans Z0 E1.1) E2.1)
        obtain ⟨cq1007, kq1007, q1007a, q1007b, q1007c⟩ := isOf hZ2 e3 (PE1.ext E2)
        obtain ⟨_, _, ⟨T1007, L1007, k1007, n1007⟩, -, X1007, ⟨Lc1007, hQ1007, l1007, y1007, z1007⟩, st1007⟩ := X3.virtualBack hx (y := (⟨"java/lang/String", "charAt", "(I)C"⟩ : MethodName)) (z := (⟨"java/lang/String", "charAt", "(I)C"⟩ : MethodName)) hown2 (mvT hZ2 (hw _ (List.mem_of_getElem? (i := 13) rfl))) (mvT hZ2 (hw _ (List.mem_of_getElem? (i := 14) rfl))) (notFace_of_selects (args := #[]) (mvT hZ2 (hw _ (List.mem_of_getElem? (i := 16) rfl)))) (mvT hZ2 (hw _ (List.mem_of_getElem? (i := 16) rfl))) (mvT hZ2 (hw _ (List.mem_of_getElem? (i := 15) rfl))) (by decide) (backOf (W := 1) (rm2 l Z a0 hw [] b1 (own_hx_0 (i1.toUInt32.toUInt16.toUInt32.toInt32)) y1 kb1 (16 : Int32) own_U cz fz h2 n0 Zq1007 (PE1.ext E2) (PC1.ext E2) (PV1.ext E2) (PA1.ext E2) ((S_COMPACT_STRINGS.ext E1).ext E2) ((S_SIOOBE_FORMATTER.ext E1).ext E2) hp1007_hcz hp1007_hfz hp1007_hi) hZ2 (hw _ (List.mem_of_getElem? (i := 17) rfl)) (hw _ (List.mem_of_getElem? (i := 1) rfl)) (by decide) (by decide)) q1007a q1007c (g := (mkF m 40 #[.val (.int i1), .val (.int i2), .val (.ref b1), .val (.ref b2), .val (.int (i1.toUInt32.toUInt16.toUInt32.toInt32)), .val (.int (own_hx_0 (i1.toUInt32.toUInt16.toUInt32.toInt32))), .unset, .unset, .unset, .unset, .unset] [(.int (own_hx_0 (i1.toUInt32.toUInt16.toUInt32.toInt32))), (.ref b1), (.int (i1.toUInt32.toUInt16.toUInt32.toInt32))])) rfl (by rw [hml]; rfl) (Steps.refl _) (argsL := [(.int (own_hx_0 (i1.toUInt32.toUInt16.toUInt32.toInt32)))]) (rest := [(.int (i1.toUInt32.toUInt16.toUInt32.toInt32))]) (lenOf pd_5 rfl) rfl (by show 2 * 0 + _ ≤ _; exact Nat.le_of_eq rfl) (hb hby at_40) (fun _ _ => ⟨rfl, e3, (by decide : 4 + 0 ≤ _), (by decide : 136 + 0 ≤ _)⟩)
        dsimp only [Pt.U, Pt.locs, Pt.cells, Pt.slots] at X1007 l1007 y1007 z1007 st1007 hQ1007
        subst l1007 y1007 z1007
        obtain ⟨rfl, rfl, e1007⟩ := hQ1007
        try rw [List.append_nil] at X1007
        refine own_jumpW (f' := (mkF m 43 #[.val (.int i1), .val (.int i2), .val (.ref b1), .val (.ref b2), .val (.int (i1.toUInt32.toUInt16.toUInt32.toInt32)), .val (.int (own_hx_0 (i1.toUInt32.toUInt16.toUInt32.toInt32))), .unset, .unset, .unset, .unset, .unset] [(.int (own_ch own_U (own_hx_0 (i1.toUInt32.toUInt16.toUInt32.toInt32)))), (.int (i1.toUInt32.toUInt16.toUInt32.toInt32))])) st1007 ?_
        by_cases hc43_1008 : (i1.toUInt32.toUInt16.toUInt32.toInt32) = (own_ch own_U (own_hx_0 (i1.toUInt32.toUInt16.toUInt32.toInt32)))
        · refine own_stepW (f' := (mkF m 57 #[.val (.int i1), .val (.int i2), .val (.ref b1), .val (.ref b2), .val (.int (i1.toUInt32.toUInt16.toUInt32.toInt32)), .val (.int (own_hx_0 (i1.toUInt32.toUInt16.toUInt32.toInt32))), .unset, .unset, .unset, .unset, .unset] [])) (fun _ k => XS.icmpYes X1007.here hx rfl (pc0 := 43) (pc' := 57) rfl (hb hby at_43) rfl (teq hc43_1008).1 (by decide) (by decide) k) ?_
          refine own_stepW (f' := (mkF m 58 #[.val (.int i1), .val (.int i2), .val (.ref b1), .val (.ref b2), .val (.int (i1.toUInt32.toUInt16.toUInt32.toInt32)), .val (.int (own_hx_0 (i1.toUInt32.toUInt16.toUInt32.toInt32))), .unset, .unset, .unset, .unset, .unset] [(.int (1 : Int32))])) (fun _ k => XS.iconst X1007.here hx rfl (hb hby at_57) k) ?_
          refine own_stepW (f' := (mkF m 62 #[.val (.int i1), .val (.int i2), .val (.ref b1), .val (.ref b2), .val (.int (i1.toUInt32.toUInt16.toUInt32.toInt32)), .val (.int (own_hx_0 (i1.toUInt32.toUInt16.toUInt32.toInt32))), .unset, .unset, .unset, .unset, .unset] [(.int (1 : Int32))])) (fun _ k => XS.goto X1007.here hx rfl (pc0 := 58) (pc' := 62) rfl (hb hby at_58) (by decide) (by decide) k) ?_
          exact J20_11 _ (1 : Int32) X1007 e1007 (by rw [if_neg hc20_4, if_neg hc25_1005, if_neg hc32_1006, if_pos hc43_1008])
        · refine own_stepW (f' := (mkF m 46 #[.val (.int i1), .val (.int i2), .val (.ref b1), .val (.ref b2), .val (.int (i1.toUInt32.toUInt16.toUInt32.toInt32)), .val (.int (own_hx_0 (i1.toUInt32.toUInt16.toUInt32.toInt32))), .unset, .unset, .unset, .unset, .unset] [])) (fun _ k => XS.icmpNo X1007.here hx rfl (hb hby at_43) rfl (feq hc43_1008).1 k) ?_
          refine own_stepW (f' := (mkF m 48 #[.val (.int i1), .val (.int i2), .val (.ref b1), .val (.ref b2), .val (.int (i1.toUInt32.toUInt16.toUInt32.toInt32)), .val (.int (own_hx_0 (i1.toUInt32.toUInt16.toUInt32.toInt32))), .unset, .unset, .unset, .unset, .unset] [(.int (i1.toUInt32.toUInt16.toUInt32.toInt32))])) (fun _ k => XS.iload X1007.here hx rfl (hb hby at_46) rfl k) ?_
          refine own_stepW (f' := (mkF m 49 #[.val (.int i1), .val (.int i2), .val (.ref b1), .val (.ref b2), .val (.int (i1.toUInt32.toUInt16.toUInt32.toInt32)), .val (.int (own_hx_0 (i1.toUInt32.toUInt16.toUInt32.toInt32))), .unset, .unset, .unset, .unset, .unset] [(.ref b2), (.int (i1.toUInt32.toUInt16.toUInt32.toInt32))])) (fun _ k => XS.aloadN X1007.here hx rfl (hb hby at_48) rfl rfl k) ?_
          refine own_stepW (f' := (mkF m 51 #[.val (.int i1), .val (.int i2), .val (.ref b1), .val (.ref b2), .val (.int (i1.toUInt32.toUInt16.toUInt32.toInt32)), .val (.int (own_hx_0 (i1.toUInt32.toUInt16.toUInt32.toInt32))), .unset, .unset, .unset, .unset, .unset] [(.int (own_hx_0 (i1.toUInt32.toUInt16.toUInt32.toInt32))), (.ref b2), (.int (i1.toUInt32.toUInt16.toUInt32.toInt32))])) (fun _ k => XS.iload X1007.here hx rfl (hb hby at_49) rfl k) ?_
          have hp1009_hcz : ¬ cz = (0 : Int32) := hcz
          have hp1009_hfz : fz.isRef = true := hfz
          have hp1009_hi : ¬ (own_hx_0 (i1.toUInt32.toUInt16.toUInt32.toInt32)) < (0 : Int32) ∧ (own_hx_0 (i1.toUInt32.toUInt16.toUInt32.toInt32)) < (16 : Int32) := ⟨hc25_1005, own_r16 _ hc32_1006⟩
          have Zq1009 : n0 ≤ h2.size := (Nat.le_trans (Nat.le_trans Z0 E1.1) E2.1)
          obtain ⟨cq1009, kq1009, q1009a, q1009b, q1009c⟩ := isOf hZ2 e1007 PE2
          obtain ⟨_, _, ⟨T1009, L1009, k1009, n1009⟩, -, X1009, ⟨Lc1009, hQ1009, l1009, y1009, z1009⟩, st1009⟩ := X1007.virtualBack hx (y := (⟨"java/lang/String", "charAt", "(I)C"⟩ : MethodName)) (z := (⟨"java/lang/String", "charAt", "(I)C"⟩ : MethodName)) hown2 (mvT hZ2 (hw _ (List.mem_of_getElem? (i := 13) rfl))) (mvT hZ2 (hw _ (List.mem_of_getElem? (i := 14) rfl))) (notFace_of_selects (args := #[]) (mvT hZ2 (hw _ (List.mem_of_getElem? (i := 16) rfl)))) (mvT hZ2 (hw _ (List.mem_of_getElem? (i := 16) rfl))) (mvT hZ2 (hw _ (List.mem_of_getElem? (i := 15) rfl))) (by decide) (backOf (W := 1) (rm2 l Z a0 hw [] b2 (own_hx_0 (i1.toUInt32.toUInt16.toUInt32.toInt32)) y2 kb2 (16 : Int32) own_L cz fz h2 n0 Zq1009 PE2 PC2 PV2 PA2 ((S_COMPACT_STRINGS.ext E1).ext E2) ((S_SIOOBE_FORMATTER.ext E1).ext E2) hp1009_hcz hp1009_hfz hp1009_hi) hZ2 (hw _ (List.mem_of_getElem? (i := 17) rfl)) (hw _ (List.mem_of_getElem? (i := 1) rfl)) (by decide) (by decide)) q1009a q1009c (g := (mkF m 51 #[.val (.int i1), .val (.int i2), .val (.ref b1), .val (.ref b2), .val (.int (i1.toUInt32.toUInt16.toUInt32.toInt32)), .val (.int (own_hx_0 (i1.toUInt32.toUInt16.toUInt32.toInt32))), .unset, .unset, .unset, .unset, .unset] [(.int (own_hx_0 (i1.toUInt32.toUInt16.toUInt32.toInt32))), (.ref b2), (.int (i1.toUInt32.toUInt16.toUInt32.toInt32))])) rfl (by rw [hml]; rfl) (Steps.refl _) (argsL := [(.int (own_hx_0 (i1.toUInt32.toUInt16.toUInt32.toInt32)))]) (rest := [(.int (i1.toUInt32.toUInt16.toUInt32.toInt32))]) (lenOf pd_5 rfl) rfl (by show 2 * 0 + _ ≤ _; exact Nat.le_of_eq rfl) (hb hby at_51) (fun _ _ => ⟨rfl, e1007, (by decide : 4 + 0 ≤ _), (by decide : 136 + 0 ≤ _)⟩)
          dsimp only [Pt.U, Pt.locs, Pt.cells, Pt.slots] at X1009 l1009 y1009 z1009 st1009 hQ1009
          subst l1009 y1009 z1009
          obtain ⟨rfl, rfl, e1009⟩ := hQ1009
          try rw [List.append_nil] at X1009
          refine own_jumpW (f' := (mkF m 54 #[.val (.int i1), .val (.int i2), .val (.ref b1), .val (.ref b2), .val (.int (i1.toUInt32.toUInt16.toUInt32.toInt32)), .val (.int (own_hx_0 (i1.toUInt32.toUInt16.toUInt32.toInt32))), .unset, .unset, .unset, .unset, .unset] [(.int (own_ch own_L (own_hx_0 (i1.toUInt32.toUInt16.toUInt32.toInt32)))), (.int (i1.toUInt32.toUInt16.toUInt32.toInt32))])) st1009 ?_
          by_cases hc54_1010 : (i1.toUInt32.toUInt16.toUInt32.toInt32) = (own_ch own_L (own_hx_0 (i1.toUInt32.toUInt16.toUInt32.toInt32)))
          · refine own_stepW (f' := (mkF m 57 #[.val (.int i1), .val (.int i2), .val (.ref b1), .val (.ref b2), .val (.int (i1.toUInt32.toUInt16.toUInt32.toInt32)), .val (.int (own_hx_0 (i1.toUInt32.toUInt16.toUInt32.toInt32))), .unset, .unset, .unset, .unset, .unset] [])) (fun _ k => XS.icmpNo X1009.here hx rfl (hb hby at_54) rfl (teq hc54_1010).2 k) ?_
            refine own_stepW (f' := (mkF m 58 #[.val (.int i1), .val (.int i2), .val (.ref b1), .val (.ref b2), .val (.int (i1.toUInt32.toUInt16.toUInt32.toInt32)), .val (.int (own_hx_0 (i1.toUInt32.toUInt16.toUInt32.toInt32))), .unset, .unset, .unset, .unset, .unset] [(.int (1 : Int32))])) (fun _ k => XS.iconst X1009.here hx rfl (hb hby at_57) k) ?_
            refine own_stepW (f' := (mkF m 62 #[.val (.int i1), .val (.int i2), .val (.ref b1), .val (.ref b2), .val (.int (i1.toUInt32.toUInt16.toUInt32.toInt32)), .val (.int (own_hx_0 (i1.toUInt32.toUInt16.toUInt32.toInt32))), .unset, .unset, .unset, .unset, .unset] [(.int (1 : Int32))])) (fun _ k => XS.goto X1009.here hx rfl (pc0 := 58) (pc' := 62) rfl (hb hby at_58) (by decide) (by decide) k) ?_
            exact J20_11 _ (1 : Int32) X1009 e1009 (by rw [if_neg hc20_4, if_neg hc25_1005, if_neg hc32_1006, if_neg hc43_1008, if_pos hc54_1010])
          · refine own_stepW (f' := (mkF m 61 #[.val (.int i1), .val (.int i2), .val (.ref b1), .val (.ref b2), .val (.int (i1.toUInt32.toUInt16.toUInt32.toInt32)), .val (.int (own_hx_0 (i1.toUInt32.toUInt16.toUInt32.toInt32))), .unset, .unset, .unset, .unset, .unset] [])) (fun _ k => XS.icmpYes X1009.here hx rfl (pc0 := 54) (pc' := 61) rfl (hb hby at_54) rfl (feq hc54_1010).2 (by decide) (by decide) k) ?_
            refine own_stepW (f' := (mkF m 62 #[.val (.int i1), .val (.int i2), .val (.ref b1), .val (.ref b2), .val (.int (i1.toUInt32.toUInt16.toUInt32.toInt32)), .val (.int (own_hx_0 (i1.toUInt32.toUInt16.toUInt32.toInt32))), .unset, .unset, .unset, .unset, .unset] [(.int (0 : Int32))])) (fun _ k => XS.iconst X1009.here hx rfl (hb hby at_61) k) ?_
            exact J20_11 _ (0 : Int32) X1009 e1009 (by rw [if_neg hc20_4, if_neg hc25_1005, if_neg hc32_1006, if_neg hc43_1008, if_neg hc54_1010])
set_option maxRecDepth 65536 in
set_option maxHeartbeats 40000000 in
theorem comes_1 {Post : Tables → Env → Array Value → State → Outcome → State → Prop} (hpost : ∀ tb e args s v u, (limb_1_1.after args s (.returned v) u = true ∧ limb_1_2.after args s (.returned v) u = true ∧ True) → ReturnedEndW s (.returned v) u (Jvm.fieldLocs frame_1_writes args s ++ Jvm.arrayLocs frame_1_arrays args s ++ Jvm.staticLocs frame_1_statics s) 8 2112 → Post tb e args s (.returned v) u) :
    ArmFor flags0 classFile x code maxLocals ret World_1 tables_1 room_1 Calls_1 rest_1 Pre_1 Post := by
  intro l hfl _ _ p e ha hc hk s m args below hf hA hF happ hP
  obtain ⟨hcalls, hrest, hpre⟩ := hP
  obtain ⟨-, -, -, hnamed, -, -, -, hat⟩ := (Spec.applies_iff hf).mp happ
  obtain ⟨hg, hn⟩ := and_e (Cond.before_iff.mp (show (Jvm.Cond.and given_1 narrow_1).before args s = true from hpre))
  obtain ⟨gq1, gq2⟩ := and_e hg
  obtain ⟨gq3, gq4⟩ := and_e gq2
  obtain ⟨w0, w1, rfl⟩ : ∃ w0 w1 : Value, args = #[w0, w1] := by
    have hs : args.size = 2 := by simpa [Cond.value, given_1] using gq1
    obtain ⟨L⟩ := args
    match L, hs with
    | [w0, w1], _ => exact ⟨w0, w1, rfl⟩
  have hw := fun d (hd : d ∈ tables_1) => atoms_spec (ws := Jvm.Cond.code x code maxLocals ret :: tables_1) hat d (List.mem_cons_of_mem _ hd)
  have hfit : Fit s := fun {y c} hc i hi => by
    obtain ⟨ha, rfl⟩ := Array.getElem?_eq_some_iff.mp hc
    have q := List.all_eq_true.mp ((Array.all_eq_true_iff_forall_mem.mp hF) _ (Array.getElem_mem ha)) i (List.mem_range.mpr hi)
    simpa [Array.getElem?_eq_getElem hi] using q
  obtain ⟨hsets, hown0⟩ := atoms_of _ (rest_1_c_eq ▸ (show rest_1_c.before _ s = true from hrest))
  have hr0 := Cond.before_iff.mp hown0
  obtain ⟨i0, ei0⟩ := is_v gq3
  obtain rfl : w0 = (.int i0) := Option.some.inj ei0
  obtain ⟨i1, ei1⟩ := is_v gq4
  obtain rfl : w1 = (.int i1) := Option.some.inj ei1
  have q1 := Cond.before_iff.mp (hsets _ (List.mem_of_getElem? (i := 1) rfl))
  obtain ⟨cz, hcz0⟩ := is_v q1
  have S1 : Sta s s.heap "java/lang/String" "COMPACT_STRINGS" "Z" (.int cz) := Sta.start hcz0 (Or.inl (hsets _ (List.mem_of_getElem? (i := 0) rfl)))
  have q2 := Cond.before_iff.mp (hsets _ (List.mem_of_getElem? (i := 2) rfl))
  have hcz : ¬ cz = (0 : Int32) := fun q => by have r := not_v q2; rw [Cond.eq_ints hcz0 rfl] at r; simp [q] at r
  obtain ⟨fz, hfz0, hfz⟩ := isR_v (Cond.before_iff.mp (hsets _ (List.mem_of_getElem? (i := 8) rfl)))
  have S2 : Sta s s.heap "jdk/internal/util/Preconditions" "SIOOBE_FORMATTER" "Ljava/util/function/BiFunction;" fz := Sta.start hfz0 (Or.inl (hsets _ (List.mem_of_getElem? (i := 7) rfl)))
  have hcw : Jvm.Lit.compactW.before #[(.int i0), (.int i1)] s = true := hsets _ (List.mem_of_getElem? (i := 2) rfl)
  obtain ⟨n, o, h1, h2, h3, _, L, rfl, ⟨rfl, N⟩, hq⟩ := rm0 l s _ hw tables_1 i0 i1 cz fz s.heap s.heap.size (Nat.le_refl _) S1 S2 hcz hfz (hcalls.1 (_, 7) (List.mem_of_getElem? (i := 0) rfl)) (hcalls.1 (_, 9) (List.mem_of_getElem? (i := 1) rfl)) hcw p e ha hc hk s m _ below hf ((Spec.applies_iff_loose hf).mp happ).1 ⟨rfl, rfl, rfl⟩ trivial
  refine ⟨n, _, h1, h2, h3, hpost _ _ _ _ _ _ ⟨Cond.after_iff.mpr rfl, Cond.after_iff.mpr (eq_i res_at (Term.int_eval (1)) rfl), trivial⟩ ⟨hq.1, hq.2.1, hq.2.2.1, (hq.2.2.2.sift fun y hy => Or.inr (N y hy)).mono (by decide) (by decide)⟩⟩
theorem main_1_1 : Claimed_1_1 := comes_1 fun _ _ _ _ _ _ h hF => ⟨h.1, hF⟩
theorem main_1_2 : Claimed_1_2 := comes_1 fun _ _ _ _ _ _ h hF => ⟨h.2.1, hF⟩
end Jvm.Pilot.@@N@@
namespace Jvm.Pilot.@@N@@
open Jvm Jvm.ClassFile Sem Op Lib Jvm.Free Jvm.Stand Jvm.Pilot.@@N@@.Jvm.D
/-! MADE BY PROGRAM (witnessworld.py) out of the Statement's table words and the real class files: 17 classes; the members and pool entries that the words name. The judged class is class 1, her method 1. -/
namespace start1
open Jvm.ClassFile
def u (s : String) : CpInfo := .utf8 (stringToUtf16 s)
/-- a pool by its gaps: so many unusable entries, then the entry; so many at the end -/
def gap : Nat → List CpInfo → List CpInfo
  | 0, r => r
  | n + 1, r => .unusable :: gap n r
def poolList (es : List (Nat × CpInfo)) (last : Nat) : List CpInfo := es.foldr (fun e r => gap e.1 (e.2 :: r)) (gap last [])
def pool (es : List (Nat × CpInfo)) (last : Nat) : Array CpInfo := ⟨poolList es last⟩
def fileOf (pool : Array CpInfo) (this : Nat) (attrs : Array Attribute := #[]) (ms : Array MethodInfo := #[]) (fl : Nat := 33) (sup : Nat := 0) (ifs : Array Nat := #[]) (fds : Array FieldInfo := #[]) : ClassFile where
  minorVersion := 0
  majorVersion := 65
  constantPool := pool
  accessFlags := fl
  thisClass := this
  superClass := sup
  interfaces := ifs
  fields := fds
  methods := ms
  attributes := attrs
def plain (name : String) (sup : Option ClassId) : Class where
  name := name
  kind := .ordinary
  loader := none
  accessFlags := 33
  super := sup
  interfaces := #[]
  cf := none
  fields := #[]
  methods := #[]
  instanceTypes := #[]
  staticTypes := #[]
  resolved := #[]
  callSites := []
  init := .initialized
  statics := none
  mirror := none

def pool0 : Array CpInfo := pool [(5, u "<init>"), (0, u "()V"), (1, .class_ 10), (1, u "java/lang/Object")] 113

def k0m0 : Method := { name := "<init>", desc := "()V", sig := { parameters := [], returnType := none }, accessFlags := 1, code := none }
/-- java/lang/Object -/
def k0 : Class := { plain "java/lang/Object" none with
  accessFlags := 33
  interfaces := #[]
  cf := some (fileOf pool0 8 #[] #[{ accessFlags := 1, nameIndex := 5, descriptorIndex := 6, attributes := #[] }] 33 0 #[] #[])
  fields := #[]
  methods := #[k0m0]
  instanceTypes := #[]
  staticTypes := #[]
  resolved := Array.replicate 124 none
  statics := none }

def pool1 : Array CpInfo := pool [(2, .class_ 4), (1, u "java/lang/Object"), (0, u "<init>"), (0, u "()V"), (0, .string 8), (0, u "0123456789ABCDEF"), (0, .string 10), (0, u "0123456789abcdef"), (0, .methodref 12 13), (0, .class_ 14), (0, .nameAndType 15 16), (0, u "com/example/fpi_to_urn/fpitourn/PercentEscapes"), (0, u "hexValue"), (0, u "(C)I"), (0, .methodref 18 19), (0, .class_ 20), (0, .nameAndType 21 22), (0, u "java/lang/String"), (0, u "charAt"), (0, u "(I)C"), (0, .class_ 24), (0, u "com/example/fpi_to_urn/fpitourn/PercentEscapesHexValuePinLaw"), (2, u "law"), (0, u "(II)Z")] 3

def k1m0 : Method := { name := "<init>", desc := "()V", sig := { parameters := [], returnType := none }, accessFlags := 2, code := none }
def k1c1 : Code := { maxStack := 3, maxLocals := 11, code := code, exceptionTable := #[], attributes := #[] }
def k1m1 : Method := { name := "law", desc := "(II)Z", sig := { parameters := [.int, .int], returnType := some .boolean }, accessFlags := 9, code := some k1c1 }
/-- com/example/fpi_to_urn/fpitourn/PercentEscapesHexValuePinLaw -/
def k1 : Class := { plain "com/example/fpi_to_urn/fpitourn/PercentEscapesHexValuePinLaw" (some 0) with
  accessFlags := 49
  interfaces := #[]
  cf := some (fileOf pool1 23 #[] #[{ accessFlags := 2, nameIndex := 5, descriptorIndex := 6, attributes := #[] }, { accessFlags := 9, nameIndex := 27, descriptorIndex := 28, attributes := #[] }] 49 2 #[] #[])
  fields := #[]
  methods := #[k1m0, k1m1]
  instanceTypes := #[]
  staticTypes := #[]
  resolved := Array.replicate 32 none
  statics := none }

def pool2 : Array CpInfo := pool [(1, .class_ 2), (0, u "java/io/Serializable"), (0, .class_ 4), (0, u "java/lang/Object")] 2

/-- java/io/Serializable -/
def k2 : Class := { plain "java/io/Serializable" (some 0) with
  accessFlags := 1537
  interfaces := #[]
  cf := some (fileOf pool2 1 #[] #[] 1537 3 #[] #[])
  fields := #[]
  methods := #[]
  instanceTypes := #[]
  staticTypes := #[]
  resolved := Array.replicate 7 none
  statics := none }

def pool3 : Array CpInfo := pool [(1, .class_ 2), (0, u "java/lang/Comparable"), (0, .class_ 4), (0, u "java/lang/Object")] 7

/-- java/lang/Comparable -/
def k3 : Class := { plain "java/lang/Comparable" (some 0) with
  accessFlags := 1537
  interfaces := #[]
  cf := some (fileOf pool3 1 #[] #[] 1537 3 #[] #[])
  fields := #[]
  methods := #[]
  instanceTypes := #[]
  staticTypes := #[]
  resolved := Array.replicate 12 none
  statics := none }

def pool4 : Array CpInfo := pool [(2, .class_ 4), (1, u "java/lang/CharSequence"), (42, .class_ 48), (0, u "java/lang/CharSequence$1CodePointIterator"), (10, .class_ 60), (0, u "java/lang/CharSequence$1CharIterator"), (5, .class_ 67), (0, u "java/lang/Object")] 63

/-- java/lang/CharSequence -/
def k4 : Class := { plain "java/lang/CharSequence" (some 0) with
  accessFlags := 1537
  interfaces := #[]
  cf := some (fileOf pool4 2 #[.nestMembers #[47, 59]] #[] 1537 66 #[] #[])
  fields := #[]
  methods := #[]
  instanceTypes := #[]
  staticTypes := #[]
  resolved := Array.replicate 131 none
  statics := none }

def pool5 : Array CpInfo := pool [(1, .class_ 2), (0, u "java/lang/constant/Constable"), (0, .class_ 4), (0, u "java/lang/Object")] 6

/-- java/lang/constant/Constable -/
def k5 : Class := { plain "java/lang/constant/Constable" (some 0) with
  accessFlags := 1537
  interfaces := #[]
  cf := some (fileOf pool5 1 #[] #[] 1537 3 #[] #[])
  fields := #[]
  methods := #[]
  instanceTypes := #[]
  staticTypes := #[]
  resolved := Array.replicate 11 none
  statics := none }

def pool6 : Array CpInfo := pool [(1, .class_ 2), (0, u "java/lang/constant/ConstantDesc"), (0, .class_ 4), (0, u "java/lang/Object")] 32

/-- java/lang/constant/ConstantDesc -/
def k6 : Class := { plain "java/lang/constant/ConstantDesc" (some 0) with
  accessFlags := 1537
  interfaces := #[]
  cf := some (fileOf pool6 1 #[] #[] 1537 3 #[] #[])
  fields := #[]
  methods := #[]
  instanceTypes := #[]
  staticTypes := #[]
  resolved := Array.replicate 37 none
  statics := none }

def pool7 : Array CpInfo := pool [(2, .class_ 4), (1, u "java/lang/Object"), (0, u "<init>"), (0, u "()V"), (2, .fieldref 10 11), (0, .class_ 12), (0, .nameAndType 13 14), (0, u "java/lang/String"), (0, u "value"), (0, u "[B"), (0, .fieldref 10 16), (0, .nameAndType 17 18), (0, u "coder"), (0, u "B"), (2, u "hash"), (0, u "I"), (2, u "hashIsZero"), (0, u "Z"), (11, .fieldref 10 39), (0, .nameAndType 40 26), (0, u "COMPACT_STRINGS"), (66, .class_ 109), (1, u "java/lang/StringLatin1"), (32, u "()Z"), (220, u "([BI)C"), (27, u "(II)V"), (35, u "(I)C"), (64, .methodref 10 493), (0, .nameAndType 494 142), (0, u "isLatin1"), (0, .methodref 107 496), (0, .nameAndType 497 363), (0, u "charAt"), (3, u "checkIndex"), (73, .class_ 576), (0, u "java/lang/CharSequence"), (22, u "CASE_INSENSITIVE_ORDER"), (0, u "Ljava/util/Comparator;"), (452, .fieldref 1054 1055), (0, .class_ 1056), (0, .nameAndType 1057 1058), (0, u "jdk/internal/util/Preconditions"), (0, u "SIOOBE_FORMATTER"), (0, u "Ljava/util/function/BiFunction;"), (0, .methodref 1054 1060), (0, .nameAndType 501 1061), (0, u "(IILjava/util/function/BiFunction;)I"), (39, u "serialPersistentFields"), (0, u "[Ljava/io/ObjectStreamField;"), (0, .class_ 1104), (0, u "java/lang/String$CaseInsensitiveComparator"), (1, .class_ 1107), (0, u "java/io/Serializable"), (0, .class_ 1109), (0, u "java/lang/Comparable"), (0, .class_ 1111), (0, u "java/lang/constant/Constable"), (0, .class_ 1113), (0, u "java/lang/constant/ConstantDesc"), (2, u "serialVersionUID"), (0, u "J"), (3, u "REPL"), (0, u "C"), (2, u "LATIN1"), (1, u "UTF16")] 323

def k7m0 : Method := { name := "<init>", desc := "()V", sig := { parameters := [], returnType := none }, accessFlags := 1, code := none }
def k7c1 : Code := { maxStack := 2, maxLocals := 2, code := jdk_42_method_56_code, exceptionTable := #[], attributes := #[] }
def k7m1 : Method := { name := "charAt", desc := "(I)C", sig := { parameters := [.int], returnType := some .char }, accessFlags := 1, code := some k7c1 }
def k7c2 : Code := { maxStack := 1, maxLocals := 1, code := jdk_42_method_154_code, exceptionTable := #[], attributes := #[] }
def k7m2 : Method := { name := "isLatin1", desc := "()Z", sig := { parameters := [], returnType := some .boolean }, accessFlags := 0, code := some k7c2 }
def k7c3 : Code := { maxStack := 3, maxLocals := 2, code := jdk_42_method_155_code, exceptionTable := #[], attributes := #[] }
def k7m3 : Method := { name := "checkIndex", desc := "(II)V", sig := { parameters := [.int, .int], returnType := none }, accessFlags := 8, code := some k7c3 }
/-- java/lang/String -/
def k7 : Class := { plain "java/lang/String" (some 0) with
  accessFlags := 49
  interfaces := #[2, 3, 4, 5, 6]
  cf := some (fileOf pool7 10 #[.nestMembers #[1103]] #[{ accessFlags := 1, nameIndex := 5, descriptorIndex := 6, attributes := #[] }, { accessFlags := 1, nameIndex := 497, descriptorIndex := 427, attributes := #[] }, { accessFlags := 0, nameIndex := 494, descriptorIndex := 142, attributes := #[] }, { accessFlags := 8, nameIndex := 501, descriptorIndex := 391, attributes := #[] }] 49 2 #[1106, 1108, 575, 1110, 1112] #[{ accessFlags := 18, nameIndex := 13, descriptorIndex := 14, attributes := #[] }, { accessFlags := 18, nameIndex := 17, descriptorIndex := 18, attributes := #[] }, { accessFlags := 2, nameIndex := 21, descriptorIndex := 22, attributes := #[] }, { accessFlags := 2, nameIndex := 25, descriptorIndex := 26, attributes := #[] }, { accessFlags := 26, nameIndex := 1116, descriptorIndex := 1117, attributes := #[] }, { accessFlags := 24, nameIndex := 40, descriptorIndex := 26, attributes := #[] }, { accessFlags := 26, nameIndex := 1101, descriptorIndex := 1102, attributes := #[] }, { accessFlags := 26, nameIndex := 1121, descriptorIndex := 1122, attributes := #[] }, { accessFlags := 25, nameIndex := 599, descriptorIndex := 600, attributes := #[] }, { accessFlags := 24, nameIndex := 1125, descriptorIndex := 18, attributes := #[] }, { accessFlags := 24, nameIndex := 1127, descriptorIndex := 18, attributes := #[] }])
  fields := #[{ name := "value", type := (.array .byte), accessFlags := 18, slot := 0, constantValue := 0 }, { name := "coder", type := .byte, accessFlags := 18, slot := 1, constantValue := 0 }, { name := "hash", type := .int, accessFlags := 2, slot := 2, constantValue := 0 }, { name := "hashIsZero", type := .boolean, accessFlags := 2, slot := 3, constantValue := 0 }, { name := "serialVersionUID", type := .long, accessFlags := 26, slot := 0, constantValue := 0 }, { name := "COMPACT_STRINGS", type := .boolean, accessFlags := 24, slot := 1, constantValue := 0 }, { name := "serialPersistentFields", type := (.array (.object "java/io/ObjectStreamField")), accessFlags := 26, slot := 2, constantValue := 0 }, { name := "REPL", type := .char, accessFlags := 26, slot := 3, constantValue := 0 }, { name := "CASE_INSENSITIVE_ORDER", type := (.object "java/util/Comparator"), accessFlags := 25, slot := 4, constantValue := 0 }, { name := "LATIN1", type := .byte, accessFlags := 24, slot := 5, constantValue := 0 }, { name := "UTF16", type := .byte, accessFlags := 24, slot := 6, constantValue := 0 }]
  methods := #[k7m0, k7m1, k7m2, k7m3]
  instanceTypes := #[(.array .byte), .byte, .int, .boolean]
  staticTypes := #[.long, .boolean, (.array (.object "java/io/ObjectStreamField")), .char, (.object "java/util/Comparator"), .byte, .byte]
  resolved := Array.replicate 1451 none
  statics := some 0 }

def pool8 : Array CpInfo := pool [(2, .class_ 4), (1, u "java/lang/Object"), (0, u "<init>"), (0, u "()V"), (1, .class_ 10), (1, u "com/example/fpi_to_urn/fpitourn/PercentEscapes"), (0, u "DIGITS"), (0, u "[I"), (18, u "HEX_DIGITS"), (0, u "Ljava/lang/String;"), (5, u "hexValue"), (0, u "(C)I")] 5

def k8m0 : Method := { name := "<init>", desc := "()V", sig := { parameters := [], returnType := none }, accessFlags := 2, code := none }
def k8c1 : Code := { maxStack := 2, maxLocals := 2, code := prog_11_method_3_code, exceptionTable := #[], attributes := #[] }
def k8m1 : Method := { name := "hexValue", desc := "(C)I", sig := { parameters := [.char], returnType := some .int }, accessFlags := 8, code := some k8c1 }
/-- com/example/fpi_to_urn/fpitourn/PercentEscapes -/
def k8 : Class := { plain "com/example/fpi_to_urn/fpitourn/PercentEscapes" (some 0) with
  accessFlags := 32
  interfaces := #[]
  cf := some (fileOf pool8 8 #[] #[{ accessFlags := 2, nameIndex := 5, descriptorIndex := 6, attributes := #[] }, { accessFlags := 8, nameIndex := 38, descriptorIndex := 39, attributes := #[] }] 32 2 #[] #[{ accessFlags := 26, nameIndex := 31, descriptorIndex := 32, attributes := #[] }, { accessFlags := 26, nameIndex := 11, descriptorIndex := 12, attributes := #[] }])
  fields := #[{ name := "HEX_DIGITS", type := (.object "java/lang/String"), accessFlags := 26, slot := 0, constantValue := 0 }, { name := "DIGITS", type := (.array .int), accessFlags := 26, slot := 1, constantValue := 0 }]
  methods := #[k8m0, k8m1]
  instanceTypes := #[]
  staticTypes := #[(.object "java/lang/String"), (.array .int)]
  resolved := Array.replicate 45 none
  statics := none }

def pool9 : Array CpInfo := pool [(1, .class_ 2), (0, u "java/lang/String"), (1, .class_ 6), (1, u "java/lang/Object"), (0, u "<init>"), (0, u "()V"), (0, .methodref 1 10), (0, .nameAndType 11 12), (0, u "checkIndex"), (0, u "(II)V"), (1, .class_ 16), (1, u "java/lang/StringLatin1"), (36, u "([BI)C"), (67, u "$assertionsDisabled"), (0, u "Z"), (98, .class_ 223), (1, u "java/lang/StringLatin1$LinesSpliterator"), (28, u "charAt"), (137, .class_ 391), (0, u "java/lang/StringLatin1$CharsSpliterator")] 3

def k9m0 : Method := { name := "<init>", desc := "()V", sig := { parameters := [], returnType := none }, accessFlags := 0, code := none }
def k9c1 : Code := { maxStack := 2, maxLocals := 2, code := jdk_43_method_2_code, exceptionTable := #[], attributes := #[] }
def k9m1 : Method := { name := "charAt", desc := "([BI)C", sig := { parameters := [(.array .byte), .int], returnType := some .char }, accessFlags := 9, code := some k9c1 }
/-- java/lang/StringLatin1 -/
def k9 : Class := { plain "java/lang/StringLatin1" (some 0) with
  accessFlags := 48
  interfaces := #[]
  cf := some (fileOf pool9 14 #[.nestMembers #[390, 221]] #[{ accessFlags := 0, nameIndex := 7, descriptorIndex := 8, attributes := #[] }, { accessFlags := 9, nameIndex := 252, descriptorIndex := 53, attributes := #[] }] 48 4 #[] #[{ accessFlags := 4120, nameIndex := 121, descriptorIndex := 122, attributes := #[] }])
  fields := #[{ name := "$assertionsDisabled", type := .boolean, accessFlags := 4120, slot := 0, constantValue := 0 }]
  methods := #[k9m0, k9m1]
  instanceTypes := #[]
  staticTypes := #[.boolean]
  resolved := Array.replicate 395 none
  statics := none }

def pool10 : Array CpInfo := pool [(2, .class_ 4), (1, u "java/lang/Object"), (0, u "<init>"), (0, u "()V"), (17, .class_ 26), (1, u "jdk/internal/util/Preconditions"), (6, u "checkIndex"), (21, .class_ 56), (0, u "jdk/internal/util/Preconditions$4"), (57, .class_ 115), (0, u "jdk/internal/util/Preconditions$1"), (7, u "SIOOBE_FORMATTER"), (0, u "Ljava/util/function/BiFunction;"), (0, .class_ 126), (0, u "jdk/internal/util/Preconditions$2"), (3, u "AIOOBE_FORMATTER"), (0, .class_ 132), (0, u "jdk/internal/util/Preconditions$3"), (3, u "IOOBE_FORMATTER"), (41, u "(IILjava/util/function/BiFunction;)I")] 15

def k10m0 : Method := { name := "<init>", desc := "()V", sig := { parameters := [], returnType := none }, accessFlags := 1, code := none }
def k10c1 : Code := { maxStack := 3, maxLocals := 3, code := jdk_41_method_11_code, exceptionTable := #[], attributes := #[] }
def k10m1 : Method := { name := "checkIndex", desc := "(IILjava/util/function/BiFunction;)I", sig := { parameters := [.int, .int, (.object "java/util/function/BiFunction")], returnType := some .int }, accessFlags := 9, code := some k10c1 }
/-- jdk/internal/util/Preconditions -/
def k10 : Class := { plain "jdk/internal/util/Preconditions" (some 0) with
  accessFlags := 33
  interfaces := #[]
  cf := some (fileOf pool10 24 #[.nestMembers #[55, 131, 125, 114]] #[{ accessFlags := 1, nameIndex := 5, descriptorIndex := 6, attributes := #[] }, { accessFlags := 9, nameIndex := 33, descriptorIndex := 178, attributes := #[] }] 33 2 #[] #[{ accessFlags := 25, nameIndex := 123, descriptorIndex := 124, attributes := #[] }, { accessFlags := 25, nameIndex := 130, descriptorIndex := 124, attributes := #[] }, { accessFlags := 25, nameIndex := 136, descriptorIndex := 124, attributes := #[] }])
  fields := #[{ name := "SIOOBE_FORMATTER", type := (.object "java/util/function/BiFunction"), accessFlags := 25, slot := 0, constantValue := 0 }, { name := "AIOOBE_FORMATTER", type := (.object "java/util/function/BiFunction"), accessFlags := 25, slot := 1, constantValue := 0 }, { name := "IOOBE_FORMATTER", type := (.object "java/util/function/BiFunction"), accessFlags := 25, slot := 2, constantValue := 0 }]
  methods := #[k10m0, k10m1]
  instanceTypes := #[]
  staticTypes := #[(.object "java/util/function/BiFunction"), (.object "java/util/function/BiFunction"), (.object "java/util/function/BiFunction")]
  resolved := Array.replicate 194 none
  statics := some 1 }

def pool11 : Array CpInfo := pool [(9, u "<init>"), (6, .class_ 18), (1, u "java/lang/Object"), (0, u "()V"), (1, .class_ 23), (1, u "jdk/internal/util/ArraysSupport"), (0, u "LOG2_ARRAY_LONG_INDEX_SCALE"), (0, u "I"), (2, u "U"), (0, u "Ljdk/internal/misc/Unsafe;"), (8, u "BIG_ENDIAN"), (0, u "Z"), (8, u "LOG2_BYTE_BIT_SIZE"), (4, u "LOG2_ARRAY_INT_INDEX_SCALE"), (54, u "JLA"), (0, u "Ljdk/internal/access/JavaLangAccess;"), (11, u "LOG2_ARRAY_BOOLEAN_INDEX_SCALE"), (9, u "LOG2_ARRAY_BYTE_INDEX_SCALE"), (5, u "LOG2_ARRAY_CHAR_INDEX_SCALE"), (5, u "LOG2_ARRAY_SHORT_INDEX_SCALE"), (18, u "LOG2_ARRAY_FLOAT_INDEX_SCALE"), (24, u "LOG2_ARRAY_DOUBLE_INDEX_SCALE"), (89, u "T_BOOLEAN"), (2, u "T_CHAR"), (1, u "T_FLOAT"), (1, u "T_DOUBLE"), (1, u "T_BYTE"), (1, u "T_SHORT"), (1, u "T_INT"), (1, u "T_LONG"), (1, u "SOFT_MAX_ARRAY_LENGTH")] 83

def k11m0 : Method := { name := "<init>", desc := "()V", sig := { parameters := [], returnType := none }, accessFlags := 2, code := none }
/-- jdk/internal/util/ArraysSupport -/
def k11 : Class := { plain "jdk/internal/util/ArraysSupport" (some 0) with
  accessFlags := 33
  interfaces := #[]
  cf := some (fileOf pool11 21 #[] #[{ accessFlags := 2, nameIndex := 9, descriptorIndex := 19, attributes := #[] }] 33 16 #[] #[{ accessFlags := 24, nameIndex := 28, descriptorIndex := 29, attributes := #[] }, { accessFlags := 26, nameIndex := 38, descriptorIndex := 39, attributes := #[] }, { accessFlags := 25, nameIndex := 121, descriptorIndex := 25, attributes := #[] }, { accessFlags := 25, nameIndex := 131, descriptorIndex := 25, attributes := #[] }, { accessFlags := 25, nameIndex := 137, descriptorIndex := 25, attributes := #[] }, { accessFlags := 25, nameIndex := 143, descriptorIndex := 25, attributes := #[] }, { accessFlags := 25, nameIndex := 53, descriptorIndex := 25, attributes := #[] }, { accessFlags := 25, nameIndex := 24, descriptorIndex := 25, attributes := #[] }, { accessFlags := 25, nameIndex := 162, descriptorIndex := 25, attributes := #[] }, { accessFlags := 25, nameIndex := 187, descriptorIndex := 25, attributes := #[] }, { accessFlags := 26, nameIndex := 48, descriptorIndex := 25, attributes := #[] }, { accessFlags := 25, nameIndex := 277, descriptorIndex := 25, attributes := #[] }, { accessFlags := 25, nameIndex := 280, descriptorIndex := 25, attributes := #[] }, { accessFlags := 25, nameIndex := 282, descriptorIndex := 25, attributes := #[] }, { accessFlags := 25, nameIndex := 284, descriptorIndex := 25, attributes := #[] }, { accessFlags := 25, nameIndex := 286, descriptorIndex := 25, attributes := #[] }, { accessFlags := 25, nameIndex := 288, descriptorIndex := 25, attributes := #[] }, { accessFlags := 25, nameIndex := 290, descriptorIndex := 25, attributes := #[] }, { accessFlags := 25, nameIndex := 292, descriptorIndex := 25, attributes := #[] }, { accessFlags := 26, nameIndex := 108, descriptorIndex := 109, attributes := #[] }, { accessFlags := 25, nameIndex := 294, descriptorIndex := 25, attributes := #[] }])
  fields := #[{ name := "U", type := (.object "jdk/internal/misc/Unsafe"), accessFlags := 24, slot := 0, constantValue := 0 }, { name := "BIG_ENDIAN", type := .boolean, accessFlags := 26, slot := 1, constantValue := 0 }, { name := "LOG2_ARRAY_BOOLEAN_INDEX_SCALE", type := .int, accessFlags := 25, slot := 2, constantValue := 0 }, { name := "LOG2_ARRAY_BYTE_INDEX_SCALE", type := .int, accessFlags := 25, slot := 3, constantValue := 0 }, { name := "LOG2_ARRAY_CHAR_INDEX_SCALE", type := .int, accessFlags := 25, slot := 4, constantValue := 0 }, { name := "LOG2_ARRAY_SHORT_INDEX_SCALE", type := .int, accessFlags := 25, slot := 5, constantValue := 0 }, { name := "LOG2_ARRAY_INT_INDEX_SCALE", type := .int, accessFlags := 25, slot := 6, constantValue := 0 }, { name := "LOG2_ARRAY_LONG_INDEX_SCALE", type := .int, accessFlags := 25, slot := 7, constantValue := 0 }, { name := "LOG2_ARRAY_FLOAT_INDEX_SCALE", type := .int, accessFlags := 25, slot := 8, constantValue := 0 }, { name := "LOG2_ARRAY_DOUBLE_INDEX_SCALE", type := .int, accessFlags := 25, slot := 9, constantValue := 0 }, { name := "LOG2_BYTE_BIT_SIZE", type := .int, accessFlags := 26, slot := 10, constantValue := 0 }, { name := "T_BOOLEAN", type := .int, accessFlags := 25, slot := 11, constantValue := 0 }, { name := "T_CHAR", type := .int, accessFlags := 25, slot := 12, constantValue := 0 }, { name := "T_FLOAT", type := .int, accessFlags := 25, slot := 13, constantValue := 0 }, { name := "T_DOUBLE", type := .int, accessFlags := 25, slot := 14, constantValue := 0 }, { name := "T_BYTE", type := .int, accessFlags := 25, slot := 15, constantValue := 0 }, { name := "T_SHORT", type := .int, accessFlags := 25, slot := 16, constantValue := 0 }, { name := "T_INT", type := .int, accessFlags := 25, slot := 17, constantValue := 0 }, { name := "T_LONG", type := .int, accessFlags := 25, slot := 18, constantValue := 0 }, { name := "JLA", type := (.object "jdk/internal/access/JavaLangAccess"), accessFlags := 26, slot := 19, constantValue := 0 }, { name := "SOFT_MAX_ARRAY_LENGTH", type := .int, accessFlags := 25, slot := 20, constantValue := 0 }]
  methods := #[k11m0]
  instanceTypes := #[]
  staticTypes := #[(.object "jdk/internal/misc/Unsafe"), .boolean, .int, .int, .int, .int, .int, .int, .int, .int, .int, .int, .int, .int, .int, .int, .int, .int, .int, (.object "jdk/internal/access/JavaLangAccess"), .int]
  resolved := Array.replicate 378 none
  statics := none }

def pool12 : Array CpInfo := pool [(1, u "java/lang/Cloneable"), (0, .class_ 1), (0, u "java/lang/Object"), (0, .class_ 3)] 3

/-- java/lang/Cloneable -/
def k12 : Class := { plain "java/lang/Cloneable" (some 0) with
  accessFlags := 1537
  interfaces := #[]
  cf := some (fileOf pool12 2 #[] #[] 1537 4 #[] #[])
  fields := #[]
  methods := #[]
  instanceTypes := #[]
  staticTypes := #[]
  resolved := Array.replicate 8 none
  statics := none }

/-- the primitive byte -/
def k13 : Class := { plain "byte" none with kind := .primitive 'B', accessFlags := 0x411 }
/-- [B -/
def k14 : Class := { plain "[B" (some 0) with kind := .array 13 .byte, interfaces := #[12, 2], accessFlags := 1041 }

/-- the primitive int -/
def k15 : Class := { plain "int" none with kind := .primitive 'I', accessFlags := 0x411 }
/-- [I -/
def k16 : Class := { plain "[I" (some 0) with kind := .array 15 .int, interfaces := #[12, 2], accessFlags := 1041 }

def heap : Heap := #[{ cls := 7, slots := #[.long 0, .int 1, .null, .int 0, .null, .int 0, .int 0], vm := .statics 7 },
  { cls := 10, slots := #[.null, .null, .null], vm := .statics 10 }]
def classes : Array Class := #[k0, k1, k2, k3, k4, k5, k6, k7, k8, k9, k10, k11, k12, k13, k14, k15, k16]
def interned : List (Array UInt16 × Addr) := []
def slotsUsed : Nat := 10
def theMethod : MethodId := ⟨1, 1⟩
def args0 : Array Value := #[.int 5, .int 5]
def aboutOver (below : List Frame) : State where
  vm := { classes := classes, interned := interned.toArray }
  heap := heap
  slotsUsed := slotsUsed
  threads := #[{ frames := .invoking theMethod args0 :: below }]
def below0 : List Frame := [.native { method := ⟨0, 0⟩, args := #[] }]
def about1 : State := aboutOver below0
def p0 : Program := .bare "" "" ""
def e0 : Env := launch0.env 0 0 0
theorem w_frames : about1.frames = Frame.invoking theMethod args0 :: below0 := rfl
set_option maxRecDepth 65536 in
theorem w_args : argsFit about1.vm theMethod args0 = true := by decide +kernel
set_option maxRecDepth 65536 in
theorem w_heap : heapFits about1 = true := by decide +kernel
set_option maxRecDepth 65536 in
theorem w_runnable : about1.curStatus? = some .runnable := by decide +kernel
set_option maxRecDepth 65536 in
theorem w_alone : about1.alone = true := by decide +kernel
set_option maxRecDepth 65536 in
theorem w_named : about1.methodNamed? x = some theMethod := by decide +kernel
set_option maxRecDepth 65536 in
theorem w_hears : about1.hears theMethod below0 = true := by decide +kernel
set_option maxRecDepth 65536 in
theorem w_ripe : about1.ripe theMethod args0 below0 = true := by decide +kernel
theorem w_running : about1.status = .running := rfl
set_option maxRecDepth 65536 in
theorem w_room : about1.hasRoom e0.platform room_1 = true :=
  launch0.hasRoom_least _ room_1 (by decide +kernel) (by decide +kernel) (by decide +kernel) (by decide +kernel) (by decide +kernel) (by decide +kernel)
theorem allAtoms_all (ts : List Jvm.Cond) (a : Array Jvm.Value) (st : Jvm.State) : (allAtoms ts).before a st = ts.all (fun c => c.before a st) := by
  induction ts with
  | nil => rfl
  | cons c t ih =>
    show (Jvm.Cond.and c (allAtoms t)).before a st = _
    rw [Jvm.Cond.before_and, ih, List.all_cons]
def words1 : List Jvm.Cond := Jvm.Cond.code x code maxLocals ret :: tables_1
/-- a 'code' word, met by the world's own term for the bytes: nothing is compared byte by byte -/
theorem code_word {y : MethodName} {bytes : ByteArray} {mx : Nat} {rt : Option FieldType} {a : Array Value} {s : State} {m : MethodId} {meth : Method} {c : Code} (h1 : s.methodNamed? y = some m) (h2 : s.vm.method? m = some meth) (h3 : meth.code = some c) (h4 : c.code = bytes)
    (h5 : (c.maxLocals == mx && c.exceptionTable.isEmpty && decide (c.maxStack ≤ mostOperands) && decide (meth.sig.returnType = rt) && !meth.locks && decide (parseMethodDescriptor y.desc = some meth.sig)) = true) : (Jvm.Cond.code y bytes mx rt).before a s = true := by
  simp only [Bool.and_eq_true, beq_iff_eq, Bool.not_eq_true', decide_eq_true_eq] at h5
  obtain ⟨⟨⟨⟨⟨g1, g2⟩, g3⟩, g4⟩, g5⟩, g6⟩ := h5
  simp [Cond.before, Cond.holds, Cond.value, h1, h2, h3, h4, g1, g2, g3, g4, g5, g6]
def isCode : Jvm.Cond → Bool
  | .code _ _ _ _ => true
  | _ => false
theorem all_split {L : List Jvm.Cond} {P : Jvm.Cond → Bool} (h1 : L.all (fun c => isCode c || P c) = true) (h2 : ∀ c ∈ L.filter isCode, P c = true) : L.all P = true := by
  refine List.all_eq_true.mpr fun c hc => ?_
  have h := List.all_eq_true.mp h1 c hc
  rcases Bool.eq_false_or_eq_true (isCode c) with hi | hi
  · exact h2 c (List.mem_filter.mpr ⟨hc, hi⟩)
  · simpa [hi] using h
set_option maxRecDepth 65536 in
theorem w_c0 : (Jvm.Cond.code x code maxLocals ret).before args0 about1 = true := code_word (m := ⟨1, 1⟩) (meth := k1m1) (c := k1c1) (by decide +kernel) rfl rfl rfl (by decide +kernel)
set_option maxRecDepth 65536 in
theorem w_c1 : (Jvm.Cond.code ({ cls := "com/example/fpi_to_urn/fpitourn/PercentEscapes", name := "hexValue", desc := "(C)I" } : Jvm.MethodName) prog_11_method_3_code (2 : Nat) (Option.some Jvm.ClassFile.FieldType.int)).before args0 about1 = true := code_word (m := ⟨8, 1⟩) (meth := k8m1) (c := k8c1) (by decide +kernel) rfl rfl rfl (by decide +kernel)
set_option maxRecDepth 65536 in
theorem w_c2 : (Jvm.Cond.code ({ cls := "java/lang/String", name := "charAt", desc := "(I)C" } : Jvm.MethodName) jdk_42_method_56_code (2 : Nat) (Option.some Jvm.ClassFile.FieldType.char)).before args0 about1 = true := code_word (m := ⟨7, 1⟩) (meth := k7m1) (c := k7c1) (by decide +kernel) rfl rfl rfl (by decide +kernel)
set_option maxRecDepth 65536 in
theorem w_c3 : (Jvm.Cond.code ({ cls := "java/lang/String", name := "isLatin1", desc := "()Z" } : Jvm.MethodName) jdk_42_method_154_code (1 : Nat) (Option.some Jvm.ClassFile.FieldType.boolean)).before args0 about1 = true := code_word (m := ⟨7, 2⟩) (meth := k7m2) (c := k7c2) (by decide +kernel) rfl rfl rfl (by decide +kernel)
set_option maxRecDepth 65536 in
theorem w_c4 : (Jvm.Cond.code ({ cls := "java/lang/StringLatin1", name := "charAt", desc := "([BI)C" } : Jvm.MethodName) jdk_43_method_2_code (2 : Nat) (Option.some Jvm.ClassFile.FieldType.char)).before args0 about1 = true := code_word (m := ⟨9, 1⟩) (meth := k9m1) (c := k9c1) (by decide +kernel) rfl rfl rfl (by decide +kernel)
set_option maxRecDepth 65536 in
theorem w_c5 : (Jvm.Cond.code ({ cls := "java/lang/String", name := "checkIndex", desc := "(II)V" } : Jvm.MethodName) jdk_42_method_155_code (2 : Nat) (Option.none : Option Jvm.ClassFile.FieldType)).before args0 about1 = true := code_word (m := ⟨7, 3⟩) (meth := k7m3) (c := k7c3) (by decide +kernel) rfl rfl rfl (by decide +kernel)
set_option maxRecDepth 65536 in
theorem w_c6 : (Jvm.Cond.code ({ cls := "jdk/internal/util/Preconditions", name := "checkIndex", desc := "(IILjava/util/function/BiFunction;)I" } : Jvm.MethodName) jdk_41_method_11_code (3 : Nat) (Option.some Jvm.ClassFile.FieldType.int)).before args0 about1 = true := code_word (m := ⟨10, 1⟩) (meth := k10m1) (c := k10c1) (by decide +kernel) rfl rfl rfl (by decide +kernel)
def codes1 : List Jvm.Cond := [Jvm.Cond.code x code maxLocals ret, Jvm.Cond.code ({ cls := "com/example/fpi_to_urn/fpitourn/PercentEscapes", name := "hexValue", desc := "(C)I" } : Jvm.MethodName) prog_11_method_3_code (2 : Nat) (Option.some Jvm.ClassFile.FieldType.int), Jvm.Cond.code ({ cls := "java/lang/String", name := "charAt", desc := "(I)C" } : Jvm.MethodName) jdk_42_method_56_code (2 : Nat) (Option.some Jvm.ClassFile.FieldType.char), Jvm.Cond.code ({ cls := "java/lang/String", name := "isLatin1", desc := "()Z" } : Jvm.MethodName) jdk_42_method_154_code (1 : Nat) (Option.some Jvm.ClassFile.FieldType.boolean), Jvm.Cond.code ({ cls := "java/lang/StringLatin1", name := "charAt", desc := "([BI)C" } : Jvm.MethodName) jdk_43_method_2_code (2 : Nat) (Option.some Jvm.ClassFile.FieldType.char), Jvm.Cond.code ({ cls := "java/lang/String", name := "checkIndex", desc := "(II)V" } : Jvm.MethodName) jdk_42_method_155_code (2 : Nat) (Option.none : Option Jvm.ClassFile.FieldType), Jvm.Cond.code ({ cls := "jdk/internal/util/Preconditions", name := "checkIndex", desc := "(IILjava/util/function/BiFunction;)I" } : Jvm.MethodName) jdk_41_method_11_code (3 : Nat) (Option.some Jvm.ClassFile.FieldType.int)]
set_option maxRecDepth 65536 in
theorem codes_eq : words1.filter isCode = codes1 := rfl
theorem w_codes : ∀ c ∈ words1.filter isCode, c.before args0 about1 = true := by
  rw [codes_eq]
  intro c hc
  simp only [codes1, List.mem_cons, List.not_mem_nil, or_false] at hc
  rcases hc with rfl | rfl | rfl | rfl | rfl | rfl | rfl
  · exact w_c0
  · exact w_c1
  · exact w_c2
  · exact w_c3
  · exact w_c4
  · exact w_c5
  · exact w_c6
set_option maxRecDepth 65536 in
theorem w_t1 : (words1.take 24).all (fun c => isCode c || c.before args0 about1) = true := by decide +kernel
set_option maxRecDepth 65536 in
theorem w_t2 : (words1.drop 24).all (fun c => isCode c || c.before args0 about1) = true := by decide +kernel
theorem w_tables : (allAtoms (Jvm.Cond.code x code maxLocals ret :: tables_1)).before args0 about1 = true := by
  rw [allAtoms_all]
  show words1.all (fun c => c.before args0 about1) = true
  refine all_split ?_ w_codes
  rw [← List.take_append_drop 24 words1, List.all_append, w_t1, w_t2]
  rfl
set_option maxRecDepth 65536 in
theorem w_rest : rest_1_c.before args0 about1 = true := by decide +kernel
set_option maxRecDepth 65536 in
theorem w_case : (Jvm.Cond.and given_1 narrow_1).before args0 about1 = true := by decide +kernel
set_option maxRecDepth 65536 in
theorem w_consts : constsHeld consts_1 about1 := Jvm.Lit.constsHeldB_iff.mp (by decide +kernel)
theorem w_applies : (headSpec (Jvm.Cond.code x code maxLocals ret :: tables_1) room_1).applies x e0.platform about1 = true :=
  (Spec.applies_iff w_frames).mpr ⟨w_running, w_runnable, w_alone, w_named, w_hears, w_ripe, w_room, w_tables⟩
theorem atStart : AtStart classFile x code maxLocals ret World_1 tables_1 room_1 Calls_1 rest_1 Pre_1 launch0 p0 e0 about1 theMethod args0 below0 :=
  ⟨lists_1, trivial, launch0.admits_env _ _ _, launch0.least_env, fairChoices_fair.cas, fairChoices_fair.clock, w_frames, w_args, w_heap, w_applies, ⟨w_consts, trivial⟩, w_rest, w_case⟩
end start1
theorem witness_1 : WitnessClaimed_1 := ⟨start1.p0, start1.e0, start1.about1, start1.theMethod, start1.args0, start1.below0, start1.atStart⟩
end Jvm.Pilot.@@N@@
