import JvmDerived
import JvmDerived.Pilot.@@N@@Statement
import JvmDerived.Pilot.@@N@@Code
set_option linter.unusedVariables false
set_option linter.unusedSimpArgs false
namespace Jvm.Pilot.@@N@@
open Jvm Jvm.ClassFile Sem Op Lib Jvm.Free Jvm.Stand Jvm.LawKit Jvm.RoadKit Bundle Jvm.Pilot.@@N@@.Jvm.D
section Own
variable {p : Program} {l : Launch} {e : Env} {R : Room} {s : State} {m : MethodId} {args : Array Value} {below : List Frame} {meth : Method} {c : Code} {T T' : State} {locs : List Loc} {cells slots : Nat} {QQ : Option Value → Heap → List Loc → Prop} {kc ks : Nat} {f f' : JFrame}
/-- from here the run comes to the method's return, with what QQ says -/
def own_Goes (p : Program) (e : Env) (below : List Frame) (s : State) (QQ : Option Value → Heap → List Loc → Prop) (kc ks : Nat) (T : State) (f : JFrame) : Prop :=
  ∃ s₂ o, Steps p.tables e below (T.setTop f) s₂ ∧ s₂.status = .running ∧ Ended s₂ below o ∧ ∃ v L, o = .returned v ∧ QQ v s₂.heap L ∧ FrameEnd s o s₂ L kc ks
theorem own_step (st : ∀ target, Steps p.tables e below (T'.setTop f') target → Steps p.tables e below (T.setTop f) target) (h : own_Goes p e below s QQ kc ks T' f') : own_Goes p e below s QQ kc ks T f := by
  obtain ⟨s₂, o, h1, r⟩ := h
  exact ⟨s₂, o, st _ h1, r⟩
theorem own_jump (st : Steps p.tables e below (T.setTop f) (T'.setTop f')) (h : own_Goes p e below s QQ kc ks T' f') : own_Goes p e below s QQ kc ks T f := by
  obtain ⟨s₂, o, h1, r⟩ := h
  exact ⟨s₂, o, st.trans h1, r⟩
theorem own_out {v : Option Value} (X : Stand p l e R s m args below meth c T locs cells slots) (hlk : meth.locks = false) (hv : meth.sig.returnType = none → v = none)
    (st : ∀ fs, (∀ (f : JFrame) (acts : List Action), f.method = m → f.locked = none → f.entered = [] → (doReturn e (T.setTop f) acts v).1 = T.setFrames fs) → Steps p.tables e below (T.setTop f) (T.setFrames fs)) (hc : cells ≤ kc) (hs : slots ≤ ks) (hq : QQ v T.heap locs) : own_Goes p e below s QQ kc ks T f := by
  obtain ⟨fs, hr, hrun, hended, hW, hsame⟩ := X.leave (v := v) hv hlk
  exact ⟨_, _, st fs hr, hrun, hended, v, locs, rfl, hq, ⟨_, rfl⟩, hW, hsame.mono hc hs⟩
theorem own_staKeep {Z : State} {h h' : Heap} {C n d : String} {v : Value} {ws : List Addr} (F : Sta Z h C n d v) (K : Keep h h' ws) (q : ∀ x ∈ ws, ∃ cell : Cell, h[x]? = some cell ∧ cell.vm.isStatics = false) : Sta Z h' C n d v := by
  obtain ⟨cf, i, k, f, st, cell, h1, h2, h3, h4, h5, h6, h7⟩ := F
  refine ⟨cf, i, k, f, st, cell, h1, h2, h3, h4, K.2.1 st cell h5 (fun z => ?_), h6, h7⟩
  obtain ⟨c', g1, g2⟩ := q st z
  rw [h5] at g1
  cases g1
  rw [h6] at g2
  cases g2
theorem own_exaNS {Z : State} {h : Heap} {a : Addr} {C : String} (F : Exa Z h a C) : ∃ cell : Cell, h[a]? = some cell ∧ cell.vm.isStatics = false := by
  obtain ⟨cell, k, h1, -, -, h4, -⟩ := F
  exact ⟨cell, h1, h4⟩
end Own
def own_ex_174 (p1 : Int32) : Int32 := (1 : Int32)
def own_ex_42 (p1 : Int32) : Int32 := (if p1 = (32 : Int32) then (own_ex_174 p1) else (if p1 = (13 : Int32) then (own_ex_174 p1) else (if p1 = (10 : Int32) then (own_ex_174 p1) else (if p1 = (45 : Int32) then (own_ex_174 p1) else (if p1 = (39 : Int32) then (own_ex_174 p1) else (if p1 = (40 : Int32) then (own_ex_174 p1) else (if p1 = (41 : Int32) then (own_ex_174 p1) else (if p1 = (43 : Int32) then (own_ex_174 p1) else (if p1 = (44 : Int32) then (own_ex_174 p1) else (if p1 = (46 : Int32) then (own_ex_174 p1) else (if p1 = (47 : Int32) then (own_ex_174 p1) else (if p1 = (58 : Int32) then (own_ex_174 p1) else (if p1 = (61 : Int32) then (own_ex_174 p1) else (if p1 = (63 : Int32) then (own_ex_174 p1) else (if p1 = (59 : Int32) then (own_ex_174 p1) else (if p1 = (33 : Int32) then (own_ex_174 p1) else (if p1 = (42 : Int32) then (own_ex_174 p1) else (if p1 = (35 : Int32) then (own_ex_174 p1) else (if p1 = (64 : Int32) then (own_ex_174 p1) else (if p1 = (36 : Int32) then (own_ex_174 p1) else (if p1 = (95 : Int32) then (own_ex_174 p1) else (if p1 = (37 : Int32) then (own_ex_174 p1) else (0 : Int32)))))))))))))))))))))))
def own_ex_28 (p1 : Int32) : Int32 := (if p1 < (48 : Int32) then (own_ex_42 p1) else (if (57 : Int32) < p1 then (own_ex_42 p1) else (1 : Int32)))
def own_ex_14 (p1 : Int32) : Int32 := (if p1 < (65 : Int32) then (own_ex_28 p1) else (if (90 : Int32) < p1 then (own_ex_28 p1) else (1 : Int32)))
def own_ex_0 (p1 : Int32) : Int32 := (if p1 < (97 : Int32) then (own_ex_14 p1) else (if (122 : Int32) < p1 then (own_ex_14 p1) else (1 : Int32)))
theorem d2_0 : decode method_3_code 0 = .ok (.iload_n 0, 1) := by decide +kernel
theorem d2_1 : decode method_3_code 1 = .ok (.bipush 97, 2) := by decide +kernel
theorem d2_3 : decode method_3_code 3 = .ok (.if_icmp .lt 11, 3) := by decide +kernel
theorem d2_6 : decode method_3_code 6 = .ok (.iload_n 0, 1) := by decide +kernel
theorem d2_7 : decode method_3_code 7 = .ok (.bipush 122, 2) := by decide +kernel
theorem d2_9 : decode method_3_code 9 = .ok (.if_icmp .gt 5, 3) := by decide +kernel
theorem d2_12 : decode method_3_code 12 = .ok (.iconst 1, 1) := by decide +kernel
theorem d2_13 : decode method_3_code 13 = .ok (.ireturn, 1) := by decide +kernel
theorem d2_14 : decode method_3_code 14 = .ok (.iload_n 0, 1) := by decide +kernel
theorem d2_15 : decode method_3_code 15 = .ok (.bipush 65, 2) := by decide +kernel
theorem d2_17 : decode method_3_code 17 = .ok (.if_icmp .lt 11, 3) := by decide +kernel
theorem d2_20 : decode method_3_code 20 = .ok (.iload_n 0, 1) := by decide +kernel
theorem d2_21 : decode method_3_code 21 = .ok (.bipush 90, 2) := by decide +kernel
theorem d2_23 : decode method_3_code 23 = .ok (.if_icmp .gt 5, 3) := by decide +kernel
theorem d2_26 : decode method_3_code 26 = .ok (.iconst 1, 1) := by decide +kernel
theorem d2_27 : decode method_3_code 27 = .ok (.ireturn, 1) := by decide +kernel
theorem d2_28 : decode method_3_code 28 = .ok (.iload_n 0, 1) := by decide +kernel
theorem d2_29 : decode method_3_code 29 = .ok (.bipush 48, 2) := by decide +kernel
theorem d2_31 : decode method_3_code 31 = .ok (.if_icmp .lt 11, 3) := by decide +kernel
theorem d2_34 : decode method_3_code 34 = .ok (.iload_n 0, 1) := by decide +kernel
theorem d2_35 : decode method_3_code 35 = .ok (.bipush 57, 2) := by decide +kernel
theorem d2_37 : decode method_3_code 37 = .ok (.if_icmp .gt 5, 3) := by decide +kernel
theorem d2_40 : decode method_3_code 40 = .ok (.iconst 1, 1) := by decide +kernel
theorem d2_41 : decode method_3_code 41 = .ok (.ireturn, 1) := by decide +kernel
theorem d2_42 : decode method_3_code 42 = .ok (.iload_n 0, 1) := by decide +kernel
theorem d2_43 : decode method_3_code 43 = .ok (.bipush 32, 2) := by decide +kernel
theorem d2_45 : decode method_3_code 45 = .ok (.if_icmp .eq 129, 3) := by decide +kernel
theorem d2_48 : decode method_3_code 48 = .ok (.iload_n 0, 1) := by decide +kernel
theorem d2_49 : decode method_3_code 49 = .ok (.bipush 13, 2) := by decide +kernel
theorem d2_51 : decode method_3_code 51 = .ok (.if_icmp .eq 123, 3) := by decide +kernel
theorem d2_54 : decode method_3_code 54 = .ok (.iload_n 0, 1) := by decide +kernel
theorem d2_55 : decode method_3_code 55 = .ok (.bipush 10, 2) := by decide +kernel
theorem d2_57 : decode method_3_code 57 = .ok (.if_icmp .eq 117, 3) := by decide +kernel
theorem d2_60 : decode method_3_code 60 = .ok (.iload_n 0, 1) := by decide +kernel
theorem d2_61 : decode method_3_code 61 = .ok (.bipush 45, 2) := by decide +kernel
theorem d2_63 : decode method_3_code 63 = .ok (.if_icmp .eq 111, 3) := by decide +kernel
theorem d2_66 : decode method_3_code 66 = .ok (.iload_n 0, 1) := by decide +kernel
theorem d2_67 : decode method_3_code 67 = .ok (.bipush 39, 2) := by decide +kernel
theorem d2_69 : decode method_3_code 69 = .ok (.if_icmp .eq 105, 3) := by decide +kernel
theorem d2_72 : decode method_3_code 72 = .ok (.iload_n 0, 1) := by decide +kernel
theorem d2_73 : decode method_3_code 73 = .ok (.bipush 40, 2) := by decide +kernel
theorem d2_75 : decode method_3_code 75 = .ok (.if_icmp .eq 99, 3) := by decide +kernel
theorem d2_78 : decode method_3_code 78 = .ok (.iload_n 0, 1) := by decide +kernel
theorem d2_79 : decode method_3_code 79 = .ok (.bipush 41, 2) := by decide +kernel
theorem d2_81 : decode method_3_code 81 = .ok (.if_icmp .eq 93, 3) := by decide +kernel
theorem d2_84 : decode method_3_code 84 = .ok (.iload_n 0, 1) := by decide +kernel
theorem d2_85 : decode method_3_code 85 = .ok (.bipush 43, 2) := by decide +kernel
theorem d2_87 : decode method_3_code 87 = .ok (.if_icmp .eq 87, 3) := by decide +kernel
theorem d2_90 : decode method_3_code 90 = .ok (.iload_n 0, 1) := by decide +kernel
theorem d2_91 : decode method_3_code 91 = .ok (.bipush 44, 2) := by decide +kernel
theorem d2_93 : decode method_3_code 93 = .ok (.if_icmp .eq 81, 3) := by decide +kernel
theorem d2_96 : decode method_3_code 96 = .ok (.iload_n 0, 1) := by decide +kernel
theorem d2_97 : decode method_3_code 97 = .ok (.bipush 46, 2) := by decide +kernel
theorem d2_99 : decode method_3_code 99 = .ok (.if_icmp .eq 75, 3) := by decide +kernel
theorem d2_102 : decode method_3_code 102 = .ok (.iload_n 0, 1) := by decide +kernel
theorem d2_103 : decode method_3_code 103 = .ok (.bipush 47, 2) := by decide +kernel
theorem d2_105 : decode method_3_code 105 = .ok (.if_icmp .eq 69, 3) := by decide +kernel
theorem d2_108 : decode method_3_code 108 = .ok (.iload_n 0, 1) := by decide +kernel
theorem d2_109 : decode method_3_code 109 = .ok (.bipush 58, 2) := by decide +kernel
theorem d2_111 : decode method_3_code 111 = .ok (.if_icmp .eq 63, 3) := by decide +kernel
theorem d2_114 : decode method_3_code 114 = .ok (.iload_n 0, 1) := by decide +kernel
theorem d2_115 : decode method_3_code 115 = .ok (.bipush 61, 2) := by decide +kernel
theorem d2_117 : decode method_3_code 117 = .ok (.if_icmp .eq 57, 3) := by decide +kernel
theorem d2_120 : decode method_3_code 120 = .ok (.iload_n 0, 1) := by decide +kernel
theorem d2_121 : decode method_3_code 121 = .ok (.bipush 63, 2) := by decide +kernel
theorem d2_123 : decode method_3_code 123 = .ok (.if_icmp .eq 51, 3) := by decide +kernel
theorem d2_126 : decode method_3_code 126 = .ok (.iload_n 0, 1) := by decide +kernel
theorem d2_127 : decode method_3_code 127 = .ok (.bipush 59, 2) := by decide +kernel
theorem d2_129 : decode method_3_code 129 = .ok (.if_icmp .eq 45, 3) := by decide +kernel
theorem d2_132 : decode method_3_code 132 = .ok (.iload_n 0, 1) := by decide +kernel
theorem d2_133 : decode method_3_code 133 = .ok (.bipush 33, 2) := by decide +kernel
theorem d2_135 : decode method_3_code 135 = .ok (.if_icmp .eq 39, 3) := by decide +kernel
theorem d2_138 : decode method_3_code 138 = .ok (.iload_n 0, 1) := by decide +kernel
theorem d2_139 : decode method_3_code 139 = .ok (.bipush 42, 2) := by decide +kernel
theorem d2_141 : decode method_3_code 141 = .ok (.if_icmp .eq 33, 3) := by decide +kernel
theorem d2_144 : decode method_3_code 144 = .ok (.iload_n 0, 1) := by decide +kernel
theorem d2_145 : decode method_3_code 145 = .ok (.bipush 35, 2) := by decide +kernel
theorem d2_147 : decode method_3_code 147 = .ok (.if_icmp .eq 27, 3) := by decide +kernel
theorem d2_150 : decode method_3_code 150 = .ok (.iload_n 0, 1) := by decide +kernel
theorem d2_151 : decode method_3_code 151 = .ok (.bipush 64, 2) := by decide +kernel
theorem d2_153 : decode method_3_code 153 = .ok (.if_icmp .eq 21, 3) := by decide +kernel
theorem d2_156 : decode method_3_code 156 = .ok (.iload_n 0, 1) := by decide +kernel
theorem d2_157 : decode method_3_code 157 = .ok (.bipush 36, 2) := by decide +kernel
theorem d2_159 : decode method_3_code 159 = .ok (.if_icmp .eq 15, 3) := by decide +kernel
theorem d2_162 : decode method_3_code 162 = .ok (.iload_n 0, 1) := by decide +kernel
theorem d2_163 : decode method_3_code 163 = .ok (.bipush 95, 2) := by decide +kernel
theorem d2_165 : decode method_3_code 165 = .ok (.if_icmp .eq 9, 3) := by decide +kernel
theorem d2_168 : decode method_3_code 168 = .ok (.iload_n 0, 1) := by decide +kernel
theorem d2_169 : decode method_3_code 169 = .ok (.bipush 37, 2) := by decide +kernel
theorem d2_171 : decode method_3_code 171 = .ok (.if_icmp .ne 7, 3) := by decide +kernel
theorem d2_174 : decode method_3_code 174 = .ok (.iconst 1, 1) := by decide +kernel
theorem d2_175 : decode method_3_code 175 = .ok (.goto 4, 3) := by decide +kernel
theorem d2_178 : decode method_3_code 178 = .ok (.iconst 0, 1) := by decide +kernel
theorem d2_179 : decode method_3_code 179 = .ok (.ireturn, 1) := by decide +kernel
theorem pn_0 : plainName "com/example/fpi_to_urn/fpitourn/PubidCharsContainsPinLaw" = true := by first | (simp [plainName, overriddenIn]; done) | decide +kernel
theorem ef_2 (m : MethodId) (x0 : Int32) : entryFrame m #[(.int x0)] 1 = mkF m 0 #[.val (.int x0)] [] := by first | (simp [entryFrame, mkF, argsToLocals, Value.category]; done) | rfl
def Q2 (Z : State) (p1 : Int32) (h0 : Heap) (n0 : Nat) (v : Option Value) (h : Heap) (L : List Loc) : Prop := v = some (.int (own_ex_0 p1)) ∧ L = [] ∧ h = h0
abbrev R2 : Room := { frames := 0, cells := 0, slots := 0, locals := 0 }
set_option maxRecDepth 65536 in
set_option maxHeartbeats 40000000 in
theorem rm2 (l : Launch) (Z : State) (a0 : Array Value) (hw : ∀ d ∈ tables_1, d.before a0 Z = true) (ws : List Jvm.Cond) (p1 : Int32) (h0 : Heap) (n0 : Nat) (Z0 : n0 ≤ h0.size)  :
    MetFree l (⟨"com/example/fpi_to_urn/fpitourn/PubidCharsContainsPinLaw", "expected", "(C)Z"⟩ : MethodName) (head1 (Jvm.Cond.code (⟨"com/example/fpi_to_urn/fpitourn/PubidCharsContainsPinLaw", "expected", "(C)Z"⟩ : MethodName) method_3_code 1 (some .boolean) :: ws) R2) (fun a U => a = #[(.int p1)] ∧ Z.Warmed39 U.vm ∧ U.heap = h0) (fun _ _ _ _ _ => True) (fun _ U o U' => ∃ v L, o = .returned v ∧ Q2 Z p1 h0 n0 v U'.heap L ∧ FrameEnd U o U' L R2.cells R2.slots) := by
  refine MetFree.of_bodySF (plainFor_of_name pn_0) hisR ?_
  intro p e s m args below meth c s₁ Bd hml0 hP hK
  obtain ⟨rfl, hZ, hh⟩ := hP
  have hx := Bd.exec
  have hby := Bd.bytes
  have hlk : meth.locks = false := BodyLoose.notSynchronized Bd
  have hml : c.maxLocals = 1 := hml0
  have hown : s.vm.findClass "com/example/fpi_to_urn/fpitourn/PubidCharsContainsPinLaw" = some m.cls := findClass_of_methodNamed Bd.named
  have hnm := (name_of_methodNamed Bd.named Bd.method).1
  have X0 : Stand p l e R2 s m #[(.int p1)] below meth c s₁ [] 0 0 := Stand.of_body Bd
  have e0 : s₁.heap = h0 := by rw [← hh, Bd.state]; rfl
  have N0 := Fr.nil n0
  show own_Goes p e below s (Q2 Z p1 h0 n0) R2.cells R2.slots s₁ (entryFrame m #[(.int p1)] 1)
  rw [ef_2 m p1]
  have K_174 : ∀ (T_174 : State), Stand p l e R2 s m #[(.int p1)] below meth c T_174 [] 0 0 → T_174.heap = h0 → own_ex_0 p1 = own_ex_174 p1 → own_Goes p e below s (Q2 Z p1 h0 n0) R2.cells R2.slots T_174 (mkF m 174 #[.val (.int p1)] []) := by
    intro T_174 X_174 e_174 hq_174
    refine own_step (f' := (mkF m 175 #[.val (.int p1)] [(.int (1 : Int32))])) (fun _ k => XS.iconst X_174.here hx rfl (hb hby d2_174) k) ?_
    refine own_step (f' := (mkF m 179 #[.val (.int p1)] [(.int (1 : Int32))])) (fun _ k => XS.goto X_174.here hx rfl (pc0 := 175) (pc' := 179) rfl (hb hby d2_175) (by decide) (by decide) k) ?_
    refine own_out (v := some (.int (1 : Int32))) X_174 hlk (fun h => by rw [Bd.returns] at h; cases h) (fun fs hr => retN X_174 hx (t := .boolean) Bd.returns (by simp) (hb hby d2_179) hr) (by decide) (by decide) ?_
    rw [e_174]
    exact ⟨(by rw [hq_174, own_ex_174]), rfl, rfl⟩
  have K_42 : ∀ (T_42 : State), Stand p l e R2 s m #[(.int p1)] below meth c T_42 [] 0 0 → T_42.heap = h0 → own_ex_0 p1 = own_ex_42 p1 → own_Goes p e below s (Q2 Z p1 h0 n0) R2.cells R2.slots T_42 (mkF m 42 #[.val (.int p1)] []) := by
    intro T_42 X_42 e_42 hq_42
    refine own_step (f' := (mkF m 43 #[.val (.int p1)] [(.int p1)])) (fun _ k => XS.iloadN X_42.here hx rfl (hb hby d2_42) rfl k) ?_
    refine own_step (f' := (mkF m 45 #[.val (.int p1)] [(.int (32 : Int32)), (.int p1)])) (fun _ k => XS.bipush X_42.here hx rfl (hb hby d2_43) k) ?_
    by_cases hc45_1 : p1 = (32 : Int32)
    · refine own_step (f' := (mkF m 174 #[.val (.int p1)] [])) (fun _ k => XS.icmpYes X_42.here hx rfl (pc0 := 45) (pc' := 174) rfl (hb hby d2_45) rfl (teq hc45_1).1 (by decide) (by decide) k) ?_
      exact K_174 _ X_42 e_42 (by rw [hq_42, own_ex_42, if_pos hc45_1])
    · refine own_step (f' := (mkF m 48 #[.val (.int p1)] [])) (fun _ k => XS.icmpNo X_42.here hx rfl (hb hby d2_45) rfl (feq hc45_1).1 k) ?_
      refine own_step (f' := (mkF m 49 #[.val (.int p1)] [(.int p1)])) (fun _ k => XS.iloadN X_42.here hx rfl (hb hby d2_48) rfl k) ?_
      refine own_step (f' := (mkF m 51 #[.val (.int p1)] [(.int (13 : Int32)), (.int p1)])) (fun _ k => XS.bipush X_42.here hx rfl (hb hby d2_49) k) ?_
      by_cases hc51_2 : p1 = (13 : Int32)
      · refine own_step (f' := (mkF m 174 #[.val (.int p1)] [])) (fun _ k => XS.icmpYes X_42.here hx rfl (pc0 := 51) (pc' := 174) rfl (hb hby d2_51) rfl (teq hc51_2).1 (by decide) (by decide) k) ?_
        exact K_174 _ X_42 e_42 (by rw [hq_42, own_ex_42, if_neg hc45_1, if_pos hc51_2])
      · refine own_step (f' := (mkF m 54 #[.val (.int p1)] [])) (fun _ k => XS.icmpNo X_42.here hx rfl (hb hby d2_51) rfl (feq hc51_2).1 k) ?_
        refine own_step (f' := (mkF m 55 #[.val (.int p1)] [(.int p1)])) (fun _ k => XS.iloadN X_42.here hx rfl (hb hby d2_54) rfl k) ?_
        refine own_step (f' := (mkF m 57 #[.val (.int p1)] [(.int (10 : Int32)), (.int p1)])) (fun _ k => XS.bipush X_42.here hx rfl (hb hby d2_55) k) ?_
        by_cases hc57_3 : p1 = (10 : Int32)
        · refine own_step (f' := (mkF m 174 #[.val (.int p1)] [])) (fun _ k => XS.icmpYes X_42.here hx rfl (pc0 := 57) (pc' := 174) rfl (hb hby d2_57) rfl (teq hc57_3).1 (by decide) (by decide) k) ?_
          exact K_174 _ X_42 e_42 (by rw [hq_42, own_ex_42, if_neg hc45_1, if_neg hc51_2, if_pos hc57_3])
        · refine own_step (f' := (mkF m 60 #[.val (.int p1)] [])) (fun _ k => XS.icmpNo X_42.here hx rfl (hb hby d2_57) rfl (feq hc57_3).1 k) ?_
          refine own_step (f' := (mkF m 61 #[.val (.int p1)] [(.int p1)])) (fun _ k => XS.iloadN X_42.here hx rfl (hb hby d2_60) rfl k) ?_
          refine own_step (f' := (mkF m 63 #[.val (.int p1)] [(.int (45 : Int32)), (.int p1)])) (fun _ k => XS.bipush X_42.here hx rfl (hb hby d2_61) k) ?_
          by_cases hc63_4 : p1 = (45 : Int32)
          · refine own_step (f' := (mkF m 174 #[.val (.int p1)] [])) (fun _ k => XS.icmpYes X_42.here hx rfl (pc0 := 63) (pc' := 174) rfl (hb hby d2_63) rfl (teq hc63_4).1 (by decide) (by decide) k) ?_
            exact K_174 _ X_42 e_42 (by rw [hq_42, own_ex_42, if_neg hc45_1, if_neg hc51_2, if_neg hc57_3, if_pos hc63_4])
          · refine own_step (f' := (mkF m 66 #[.val (.int p1)] [])) (fun _ k => XS.icmpNo X_42.here hx rfl (hb hby d2_63) rfl (feq hc63_4).1 k) ?_
            refine own_step (f' := (mkF m 67 #[.val (.int p1)] [(.int p1)])) (fun _ k => XS.iloadN X_42.here hx rfl (hb hby d2_66) rfl k) ?_
            refine own_step (f' := (mkF m 69 #[.val (.int p1)] [(.int (39 : Int32)), (.int p1)])) (fun _ k => XS.bipush X_42.here hx rfl (hb hby d2_67) k) ?_
            by_cases hc69_5 : p1 = (39 : Int32)
            · refine own_step (f' := (mkF m 174 #[.val (.int p1)] [])) (fun _ k => XS.icmpYes X_42.here hx rfl (pc0 := 69) (pc' := 174) rfl (hb hby d2_69) rfl (teq hc69_5).1 (by decide) (by decide) k) ?_
              exact K_174 _ X_42 e_42 (by rw [hq_42, own_ex_42, if_neg hc45_1, if_neg hc51_2, if_neg hc57_3, if_neg hc63_4, if_pos hc69_5])
            · refine own_step (f' := (mkF m 72 #[.val (.int p1)] [])) (fun _ k => XS.icmpNo X_42.here hx rfl (hb hby d2_69) rfl (feq hc69_5).1 k) ?_
              refine own_step (f' := (mkF m 73 #[.val (.int p1)] [(.int p1)])) (fun _ k => XS.iloadN X_42.here hx rfl (hb hby d2_72) rfl k) ?_
              refine own_step (f' := (mkF m 75 #[.val (.int p1)] [(.int (40 : Int32)), (.int p1)])) (fun _ k => XS.bipush X_42.here hx rfl (hb hby d2_73) k) ?_
              by_cases hc75_6 : p1 = (40 : Int32)
              · refine own_step (f' := (mkF m 174 #[.val (.int p1)] [])) (fun _ k => XS.icmpYes X_42.here hx rfl (pc0 := 75) (pc' := 174) rfl (hb hby d2_75) rfl (teq hc75_6).1 (by decide) (by decide) k) ?_
                exact K_174 _ X_42 e_42 (by rw [hq_42, own_ex_42, if_neg hc45_1, if_neg hc51_2, if_neg hc57_3, if_neg hc63_4, if_neg hc69_5, if_pos hc75_6])
              · refine own_step (f' := (mkF m 78 #[.val (.int p1)] [])) (fun _ k => XS.icmpNo X_42.here hx rfl (hb hby d2_75) rfl (feq hc75_6).1 k) ?_
                refine own_step (f' := (mkF m 79 #[.val (.int p1)] [(.int p1)])) (fun _ k => XS.iloadN X_42.here hx rfl (hb hby d2_78) rfl k) ?_
                refine own_step (f' := (mkF m 81 #[.val (.int p1)] [(.int (41 : Int32)), (.int p1)])) (fun _ k => XS.bipush X_42.here hx rfl (hb hby d2_79) k) ?_
                by_cases hc81_7 : p1 = (41 : Int32)
                · refine own_step (f' := (mkF m 174 #[.val (.int p1)] [])) (fun _ k => XS.icmpYes X_42.here hx rfl (pc0 := 81) (pc' := 174) rfl (hb hby d2_81) rfl (teq hc81_7).1 (by decide) (by decide) k) ?_
                  exact K_174 _ X_42 e_42 (by rw [hq_42, own_ex_42, if_neg hc45_1, if_neg hc51_2, if_neg hc57_3, if_neg hc63_4, if_neg hc69_5, if_neg hc75_6, if_pos hc81_7])
                · refine own_step (f' := (mkF m 84 #[.val (.int p1)] [])) (fun _ k => XS.icmpNo X_42.here hx rfl (hb hby d2_81) rfl (feq hc81_7).1 k) ?_
                  refine own_step (f' := (mkF m 85 #[.val (.int p1)] [(.int p1)])) (fun _ k => XS.iloadN X_42.here hx rfl (hb hby d2_84) rfl k) ?_
                  refine own_step (f' := (mkF m 87 #[.val (.int p1)] [(.int (43 : Int32)), (.int p1)])) (fun _ k => XS.bipush X_42.here hx rfl (hb hby d2_85) k) ?_
                  by_cases hc87_8 : p1 = (43 : Int32)
                  · refine own_step (f' := (mkF m 174 #[.val (.int p1)] [])) (fun _ k => XS.icmpYes X_42.here hx rfl (pc0 := 87) (pc' := 174) rfl (hb hby d2_87) rfl (teq hc87_8).1 (by decide) (by decide) k) ?_
                    exact K_174 _ X_42 e_42 (by rw [hq_42, own_ex_42, if_neg hc45_1, if_neg hc51_2, if_neg hc57_3, if_neg hc63_4, if_neg hc69_5, if_neg hc75_6, if_neg hc81_7, if_pos hc87_8])
                  · refine own_step (f' := (mkF m 90 #[.val (.int p1)] [])) (fun _ k => XS.icmpNo X_42.here hx rfl (hb hby d2_87) rfl (feq hc87_8).1 k) ?_
                    refine own_step (f' := (mkF m 91 #[.val (.int p1)] [(.int p1)])) (fun _ k => XS.iloadN X_42.here hx rfl (hb hby d2_90) rfl k) ?_
                    refine own_step (f' := (mkF m 93 #[.val (.int p1)] [(.int (44 : Int32)), (.int p1)])) (fun _ k => XS.bipush X_42.here hx rfl (hb hby d2_91) k) ?_
                    by_cases hc93_9 : p1 = (44 : Int32)
                    · refine own_step (f' := (mkF m 174 #[.val (.int p1)] [])) (fun _ k => XS.icmpYes X_42.here hx rfl (pc0 := 93) (pc' := 174) rfl (hb hby d2_93) rfl (teq hc93_9).1 (by decide) (by decide) k) ?_
                      exact K_174 _ X_42 e_42 (by rw [hq_42, own_ex_42, if_neg hc45_1, if_neg hc51_2, if_neg hc57_3, if_neg hc63_4, if_neg hc69_5, if_neg hc75_6, if_neg hc81_7, if_neg hc87_8, if_pos hc93_9])
                    · refine own_step (f' := (mkF m 96 #[.val (.int p1)] [])) (fun _ k => XS.icmpNo X_42.here hx rfl (hb hby d2_93) rfl (feq hc93_9).1 k) ?_
                      refine own_step (f' := (mkF m 97 #[.val (.int p1)] [(.int p1)])) (fun _ k => XS.iloadN X_42.here hx rfl (hb hby d2_96) rfl k) ?_
                      refine own_step (f' := (mkF m 99 #[.val (.int p1)] [(.int (46 : Int32)), (.int p1)])) (fun _ k => XS.bipush X_42.here hx rfl (hb hby d2_97) k) ?_
                      by_cases hc99_10 : p1 = (46 : Int32)
                      · refine own_step (f' := (mkF m 174 #[.val (.int p1)] [])) (fun _ k => XS.icmpYes X_42.here hx rfl (pc0 := 99) (pc' := 174) rfl (hb hby d2_99) rfl (teq hc99_10).1 (by decide) (by decide) k) ?_
                        exact K_174 _ X_42 e_42 (by rw [hq_42, own_ex_42, if_neg hc45_1, if_neg hc51_2, if_neg hc57_3, if_neg hc63_4, if_neg hc69_5, if_neg hc75_6, if_neg hc81_7, if_neg hc87_8, if_neg hc93_9, if_pos hc99_10])
                      · refine own_step (f' := (mkF m 102 #[.val (.int p1)] [])) (fun _ k => XS.icmpNo X_42.here hx rfl (hb hby d2_99) rfl (feq hc99_10).1 k) ?_
                        refine own_step (f' := (mkF m 103 #[.val (.int p1)] [(.int p1)])) (fun _ k => XS.iloadN X_42.here hx rfl (hb hby d2_102) rfl k) ?_
                        refine own_step (f' := (mkF m 105 #[.val (.int p1)] [(.int (47 : Int32)), (.int p1)])) (fun _ k => XS.bipush X_42.here hx rfl (hb hby d2_103) k) ?_
                        by_cases hc105_11 : p1 = (47 : Int32)
                        · refine own_step (f' := (mkF m 174 #[.val (.int p1)] [])) (fun _ k => XS.icmpYes X_42.here hx rfl (pc0 := 105) (pc' := 174) rfl (hb hby d2_105) rfl (teq hc105_11).1 (by decide) (by decide) k) ?_
                          exact K_174 _ X_42 e_42 (by rw [hq_42, own_ex_42, if_neg hc45_1, if_neg hc51_2, if_neg hc57_3, if_neg hc63_4, if_neg hc69_5, if_neg hc75_6, if_neg hc81_7, if_neg hc87_8, if_neg hc93_9, if_neg hc99_10, if_pos hc105_11])
                        · refine own_step (f' := (mkF m 108 #[.val (.int p1)] [])) (fun _ k => XS.icmpNo X_42.here hx rfl (hb hby d2_105) rfl (feq hc105_11).1 k) ?_
                          refine own_step (f' := (mkF m 109 #[.val (.int p1)] [(.int p1)])) (fun _ k => XS.iloadN X_42.here hx rfl (hb hby d2_108) rfl k) ?_
                          refine own_step (f' := (mkF m 111 #[.val (.int p1)] [(.int (58 : Int32)), (.int p1)])) (fun _ k => XS.bipush X_42.here hx rfl (hb hby d2_109) k) ?_
                          by_cases hc111_12 : p1 = (58 : Int32)
                          · refine own_step (f' := (mkF m 174 #[.val (.int p1)] [])) (fun _ k => XS.icmpYes X_42.here hx rfl (pc0 := 111) (pc' := 174) rfl (hb hby d2_111) rfl (teq hc111_12).1 (by decide) (by decide) k) ?_
                            exact K_174 _ X_42 e_42 (by rw [hq_42, own_ex_42, if_neg hc45_1, if_neg hc51_2, if_neg hc57_3, if_neg hc63_4, if_neg hc69_5, if_neg hc75_6, if_neg hc81_7, if_neg hc87_8, if_neg hc93_9, if_neg hc99_10, if_neg hc105_11, if_pos hc111_12])
                          · refine own_step (f' := (mkF m 114 #[.val (.int p1)] [])) (fun _ k => XS.icmpNo X_42.here hx rfl (hb hby d2_111) rfl (feq hc111_12).1 k) ?_
                            refine own_step (f' := (mkF m 115 #[.val (.int p1)] [(.int p1)])) (fun _ k => XS.iloadN X_42.here hx rfl (hb hby d2_114) rfl k) ?_
                            refine own_step (f' := (mkF m 117 #[.val (.int p1)] [(.int (61 : Int32)), (.int p1)])) (fun _ k => XS.bipush X_42.here hx rfl (hb hby d2_115) k) ?_
                            by_cases hc117_13 : p1 = (61 : Int32)
                            · refine own_step (f' := (mkF m 174 #[.val (.int p1)] [])) (fun _ k => XS.icmpYes X_42.here hx rfl (pc0 := 117) (pc' := 174) rfl (hb hby d2_117) rfl (teq hc117_13).1 (by decide) (by decide) k) ?_
                              exact K_174 _ X_42 e_42 (by rw [hq_42, own_ex_42, if_neg hc45_1, if_neg hc51_2, if_neg hc57_3, if_neg hc63_4, if_neg hc69_5, if_neg hc75_6, if_neg hc81_7, if_neg hc87_8, if_neg hc93_9, if_neg hc99_10, if_neg hc105_11, if_neg hc111_12, if_pos hc117_13])
                            · refine own_step (f' := (mkF m 120 #[.val (.int p1)] [])) (fun _ k => XS.icmpNo X_42.here hx rfl (hb hby d2_117) rfl (feq hc117_13).1 k) ?_
                              refine own_step (f' := (mkF m 121 #[.val (.int p1)] [(.int p1)])) (fun _ k => XS.iloadN X_42.here hx rfl (hb hby d2_120) rfl k) ?_
                              refine own_step (f' := (mkF m 123 #[.val (.int p1)] [(.int (63 : Int32)), (.int p1)])) (fun _ k => XS.bipush X_42.here hx rfl (hb hby d2_121) k) ?_
                              by_cases hc123_14 : p1 = (63 : Int32)
                              · refine own_step (f' := (mkF m 174 #[.val (.int p1)] [])) (fun _ k => XS.icmpYes X_42.here hx rfl (pc0 := 123) (pc' := 174) rfl (hb hby d2_123) rfl (teq hc123_14).1 (by decide) (by decide) k) ?_
                                exact K_174 _ X_42 e_42 (by rw [hq_42, own_ex_42, if_neg hc45_1, if_neg hc51_2, if_neg hc57_3, if_neg hc63_4, if_neg hc69_5, if_neg hc75_6, if_neg hc81_7, if_neg hc87_8, if_neg hc93_9, if_neg hc99_10, if_neg hc105_11, if_neg hc111_12, if_neg hc117_13, if_pos hc123_14])
                              · refine own_step (f' := (mkF m 126 #[.val (.int p1)] [])) (fun _ k => XS.icmpNo X_42.here hx rfl (hb hby d2_123) rfl (feq hc123_14).1 k) ?_
                                refine own_step (f' := (mkF m 127 #[.val (.int p1)] [(.int p1)])) (fun _ k => XS.iloadN X_42.here hx rfl (hb hby d2_126) rfl k) ?_
                                refine own_step (f' := (mkF m 129 #[.val (.int p1)] [(.int (59 : Int32)), (.int p1)])) (fun _ k => XS.bipush X_42.here hx rfl (hb hby d2_127) k) ?_
                                by_cases hc129_15 : p1 = (59 : Int32)
                                · refine own_step (f' := (mkF m 174 #[.val (.int p1)] [])) (fun _ k => XS.icmpYes X_42.here hx rfl (pc0 := 129) (pc' := 174) rfl (hb hby d2_129) rfl (teq hc129_15).1 (by decide) (by decide) k) ?_
                                  exact K_174 _ X_42 e_42 (by rw [hq_42, own_ex_42, if_neg hc45_1, if_neg hc51_2, if_neg hc57_3, if_neg hc63_4, if_neg hc69_5, if_neg hc75_6, if_neg hc81_7, if_neg hc87_8, if_neg hc93_9, if_neg hc99_10, if_neg hc105_11, if_neg hc111_12, if_neg hc117_13, if_neg hc123_14, if_pos hc129_15])
                                · refine own_step (f' := (mkF m 132 #[.val (.int p1)] [])) (fun _ k => XS.icmpNo X_42.here hx rfl (hb hby d2_129) rfl (feq hc129_15).1 k) ?_
                                  refine own_step (f' := (mkF m 133 #[.val (.int p1)] [(.int p1)])) (fun _ k => XS.iloadN X_42.here hx rfl (hb hby d2_132) rfl k) ?_
                                  refine own_step (f' := (mkF m 135 #[.val (.int p1)] [(.int (33 : Int32)), (.int p1)])) (fun _ k => XS.bipush X_42.here hx rfl (hb hby d2_133) k) ?_
                                  by_cases hc135_16 : p1 = (33 : Int32)
                                  · refine own_step (f' := (mkF m 174 #[.val (.int p1)] [])) (fun _ k => XS.icmpYes X_42.here hx rfl (pc0 := 135) (pc' := 174) rfl (hb hby d2_135) rfl (teq hc135_16).1 (by decide) (by decide) k) ?_
                                    exact K_174 _ X_42 e_42 (by rw [hq_42, own_ex_42, if_neg hc45_1, if_neg hc51_2, if_neg hc57_3, if_neg hc63_4, if_neg hc69_5, if_neg hc75_6, if_neg hc81_7, if_neg hc87_8, if_neg hc93_9, if_neg hc99_10, if_neg hc105_11, if_neg hc111_12, if_neg hc117_13, if_neg hc123_14, if_neg hc129_15, if_pos hc135_16])
                                  · refine own_step (f' := (mkF m 138 #[.val (.int p1)] [])) (fun _ k => XS.icmpNo X_42.here hx rfl (hb hby d2_135) rfl (feq hc135_16).1 k) ?_
                                    refine own_step (f' := (mkF m 139 #[.val (.int p1)] [(.int p1)])) (fun _ k => XS.iloadN X_42.here hx rfl (hb hby d2_138) rfl k) ?_
                                    refine own_step (f' := (mkF m 141 #[.val (.int p1)] [(.int (42 : Int32)), (.int p1)])) (fun _ k => XS.bipush X_42.here hx rfl (hb hby d2_139) k) ?_
                                    by_cases hc141_17 : p1 = (42 : Int32)
                                    · refine own_step (f' := (mkF m 174 #[.val (.int p1)] [])) (fun _ k => XS.icmpYes X_42.here hx rfl (pc0 := 141) (pc' := 174) rfl (hb hby d2_141) rfl (teq hc141_17).1 (by decide) (by decide) k) ?_
                                      exact K_174 _ X_42 e_42 (by rw [hq_42, own_ex_42, if_neg hc45_1, if_neg hc51_2, if_neg hc57_3, if_neg hc63_4, if_neg hc69_5, if_neg hc75_6, if_neg hc81_7, if_neg hc87_8, if_neg hc93_9, if_neg hc99_10, if_neg hc105_11, if_neg hc111_12, if_neg hc117_13, if_neg hc123_14, if_neg hc129_15, if_neg hc135_16, if_pos hc141_17])
                                    · refine own_step (f' := (mkF m 144 #[.val (.int p1)] [])) (fun _ k => XS.icmpNo X_42.here hx rfl (hb hby d2_141) rfl (feq hc141_17).1 k) ?_
                                      refine own_step (f' := (mkF m 145 #[.val (.int p1)] [(.int p1)])) (fun _ k => XS.iloadN X_42.here hx rfl (hb hby d2_144) rfl k) ?_
                                      refine own_step (f' := (mkF m 147 #[.val (.int p1)] [(.int (35 : Int32)), (.int p1)])) (fun _ k => XS.bipush X_42.here hx rfl (hb hby d2_145) k) ?_
                                      by_cases hc147_18 : p1 = (35 : Int32)
                                      · refine own_step (f' := (mkF m 174 #[.val (.int p1)] [])) (fun _ k => XS.icmpYes X_42.here hx rfl (pc0 := 147) (pc' := 174) rfl (hb hby d2_147) rfl (teq hc147_18).1 (by decide) (by decide) k) ?_
                                        exact K_174 _ X_42 e_42 (by rw [hq_42, own_ex_42, if_neg hc45_1, if_neg hc51_2, if_neg hc57_3, if_neg hc63_4, if_neg hc69_5, if_neg hc75_6, if_neg hc81_7, if_neg hc87_8, if_neg hc93_9, if_neg hc99_10, if_neg hc105_11, if_neg hc111_12, if_neg hc117_13, if_neg hc123_14, if_neg hc129_15, if_neg hc135_16, if_neg hc141_17, if_pos hc147_18])
                                      · refine own_step (f' := (mkF m 150 #[.val (.int p1)] [])) (fun _ k => XS.icmpNo X_42.here hx rfl (hb hby d2_147) rfl (feq hc147_18).1 k) ?_
                                        refine own_step (f' := (mkF m 151 #[.val (.int p1)] [(.int p1)])) (fun _ k => XS.iloadN X_42.here hx rfl (hb hby d2_150) rfl k) ?_
                                        refine own_step (f' := (mkF m 153 #[.val (.int p1)] [(.int (64 : Int32)), (.int p1)])) (fun _ k => XS.bipush X_42.here hx rfl (hb hby d2_151) k) ?_
                                        by_cases hc153_19 : p1 = (64 : Int32)
                                        · refine own_step (f' := (mkF m 174 #[.val (.int p1)] [])) (fun _ k => XS.icmpYes X_42.here hx rfl (pc0 := 153) (pc' := 174) rfl (hb hby d2_153) rfl (teq hc153_19).1 (by decide) (by decide) k) ?_
                                          exact K_174 _ X_42 e_42 (by rw [hq_42, own_ex_42, if_neg hc45_1, if_neg hc51_2, if_neg hc57_3, if_neg hc63_4, if_neg hc69_5, if_neg hc75_6, if_neg hc81_7, if_neg hc87_8, if_neg hc93_9, if_neg hc99_10, if_neg hc105_11, if_neg hc111_12, if_neg hc117_13, if_neg hc123_14, if_neg hc129_15, if_neg hc135_16, if_neg hc141_17, if_neg hc147_18, if_pos hc153_19])
                                        · refine own_step (f' := (mkF m 156 #[.val (.int p1)] [])) (fun _ k => XS.icmpNo X_42.here hx rfl (hb hby d2_153) rfl (feq hc153_19).1 k) ?_
                                          refine own_step (f' := (mkF m 157 #[.val (.int p1)] [(.int p1)])) (fun _ k => XS.iloadN X_42.here hx rfl (hb hby d2_156) rfl k) ?_
                                          refine own_step (f' := (mkF m 159 #[.val (.int p1)] [(.int (36 : Int32)), (.int p1)])) (fun _ k => XS.bipush X_42.here hx rfl (hb hby d2_157) k) ?_
                                          by_cases hc159_20 : p1 = (36 : Int32)
                                          · refine own_step (f' := (mkF m 174 #[.val (.int p1)] [])) (fun _ k => XS.icmpYes X_42.here hx rfl (pc0 := 159) (pc' := 174) rfl (hb hby d2_159) rfl (teq hc159_20).1 (by decide) (by decide) k) ?_
                                            exact K_174 _ X_42 e_42 (by rw [hq_42, own_ex_42, if_neg hc45_1, if_neg hc51_2, if_neg hc57_3, if_neg hc63_4, if_neg hc69_5, if_neg hc75_6, if_neg hc81_7, if_neg hc87_8, if_neg hc93_9, if_neg hc99_10, if_neg hc105_11, if_neg hc111_12, if_neg hc117_13, if_neg hc123_14, if_neg hc129_15, if_neg hc135_16, if_neg hc141_17, if_neg hc147_18, if_neg hc153_19, if_pos hc159_20])
                                          · refine own_step (f' := (mkF m 162 #[.val (.int p1)] [])) (fun _ k => XS.icmpNo X_42.here hx rfl (hb hby d2_159) rfl (feq hc159_20).1 k) ?_
                                            refine own_step (f' := (mkF m 163 #[.val (.int p1)] [(.int p1)])) (fun _ k => XS.iloadN X_42.here hx rfl (hb hby d2_162) rfl k) ?_
                                            refine own_step (f' := (mkF m 165 #[.val (.int p1)] [(.int (95 : Int32)), (.int p1)])) (fun _ k => XS.bipush X_42.here hx rfl (hb hby d2_163) k) ?_
                                            by_cases hc165_21 : p1 = (95 : Int32)
                                            · refine own_step (f' := (mkF m 174 #[.val (.int p1)] [])) (fun _ k => XS.icmpYes X_42.here hx rfl (pc0 := 165) (pc' := 174) rfl (hb hby d2_165) rfl (teq hc165_21).1 (by decide) (by decide) k) ?_
                                              exact K_174 _ X_42 e_42 (by rw [hq_42, own_ex_42, if_neg hc45_1, if_neg hc51_2, if_neg hc57_3, if_neg hc63_4, if_neg hc69_5, if_neg hc75_6, if_neg hc81_7, if_neg hc87_8, if_neg hc93_9, if_neg hc99_10, if_neg hc105_11, if_neg hc111_12, if_neg hc117_13, if_neg hc123_14, if_neg hc129_15, if_neg hc135_16, if_neg hc141_17, if_neg hc147_18, if_neg hc153_19, if_neg hc159_20, if_pos hc165_21])
                                            · refine own_step (f' := (mkF m 168 #[.val (.int p1)] [])) (fun _ k => XS.icmpNo X_42.here hx rfl (hb hby d2_165) rfl (feq hc165_21).1 k) ?_
                                              refine own_step (f' := (mkF m 169 #[.val (.int p1)] [(.int p1)])) (fun _ k => XS.iloadN X_42.here hx rfl (hb hby d2_168) rfl k) ?_
                                              refine own_step (f' := (mkF m 171 #[.val (.int p1)] [(.int (37 : Int32)), (.int p1)])) (fun _ k => XS.bipush X_42.here hx rfl (hb hby d2_169) k) ?_
                                              by_cases hc171_22 : p1 = (37 : Int32)
                                              · refine own_step (f' := (mkF m 174 #[.val (.int p1)] [])) (fun _ k => XS.icmpNo X_42.here hx rfl (hb hby d2_171) rfl (teq hc171_22).2 k) ?_
                                                exact K_174 _ X_42 e_42 (by rw [hq_42, own_ex_42, if_neg hc45_1, if_neg hc51_2, if_neg hc57_3, if_neg hc63_4, if_neg hc69_5, if_neg hc75_6, if_neg hc81_7, if_neg hc87_8, if_neg hc93_9, if_neg hc99_10, if_neg hc105_11, if_neg hc111_12, if_neg hc117_13, if_neg hc123_14, if_neg hc129_15, if_neg hc135_16, if_neg hc141_17, if_neg hc147_18, if_neg hc153_19, if_neg hc159_20, if_neg hc165_21, if_pos hc171_22])
                                              · refine own_step (f' := (mkF m 178 #[.val (.int p1)] [])) (fun _ k => XS.icmpYes X_42.here hx rfl (pc0 := 171) (pc' := 178) rfl (hb hby d2_171) rfl (feq hc171_22).2 (by decide) (by decide) k) ?_
                                                refine own_step (f' := (mkF m 179 #[.val (.int p1)] [(.int (0 : Int32))])) (fun _ k => XS.iconst X_42.here hx rfl (hb hby d2_178) k) ?_
                                                refine own_out (v := some (.int (0 : Int32))) X_42 hlk (fun h => by rw [Bd.returns] at h; cases h) (fun fs hr => retN X_42 hx (t := .boolean) Bd.returns (by simp) (hb hby d2_179) hr) (by decide) (by decide) ?_
                                                rw [e_42]
                                                exact ⟨(by rw [hq_42, own_ex_42, if_neg hc45_1, if_neg hc51_2, if_neg hc57_3, if_neg hc63_4, if_neg hc69_5, if_neg hc75_6, if_neg hc81_7, if_neg hc87_8, if_neg hc93_9, if_neg hc99_10, if_neg hc105_11, if_neg hc111_12, if_neg hc117_13, if_neg hc123_14, if_neg hc129_15, if_neg hc135_16, if_neg hc141_17, if_neg hc147_18, if_neg hc153_19, if_neg hc159_20, if_neg hc165_21, if_neg hc171_22]), rfl, rfl⟩
  have K_28 : ∀ (T_28 : State), Stand p l e R2 s m #[(.int p1)] below meth c T_28 [] 0 0 → T_28.heap = h0 → own_ex_0 p1 = own_ex_28 p1 → own_Goes p e below s (Q2 Z p1 h0 n0) R2.cells R2.slots T_28 (mkF m 28 #[.val (.int p1)] []) := by
    intro T_28 X_28 e_28 hq_28
    refine own_step (f' := (mkF m 29 #[.val (.int p1)] [(.int p1)])) (fun _ k => XS.iloadN X_28.here hx rfl (hb hby d2_28) rfl k) ?_
    refine own_step (f' := (mkF m 31 #[.val (.int p1)] [(.int (48 : Int32)), (.int p1)])) (fun _ k => XS.bipush X_28.here hx rfl (hb hby d2_29) k) ?_
    by_cases hc31_23 : p1 < (48 : Int32)
    · refine own_step (f' := (mkF m 42 #[.val (.int p1)] [])) (fun _ k => XS.icmpYes X_28.here hx rfl (pc0 := 31) (pc' := 42) rfl (hb hby d2_31) rfl (tlt hc31_23).1 (by decide) (by decide) k) ?_
      exact K_42 _ X_28 e_28 (by rw [hq_28, own_ex_28, if_pos hc31_23])
    · refine own_step (f' := (mkF m 34 #[.val (.int p1)] [])) (fun _ k => XS.icmpNo X_28.here hx rfl (hb hby d2_31) rfl (flt hc31_23).1 k) ?_
      refine own_step (f' := (mkF m 35 #[.val (.int p1)] [(.int p1)])) (fun _ k => XS.iloadN X_28.here hx rfl (hb hby d2_34) rfl k) ?_
      refine own_step (f' := (mkF m 37 #[.val (.int p1)] [(.int (57 : Int32)), (.int p1)])) (fun _ k => XS.bipush X_28.here hx rfl (hb hby d2_35) k) ?_
      by_cases hc37_24 : (57 : Int32) < p1
      · refine own_step (f' := (mkF m 42 #[.val (.int p1)] [])) (fun _ k => XS.icmpYes X_28.here hx rfl (pc0 := 37) (pc' := 42) rfl (hb hby d2_37) rfl (tlt hc37_24).2.2.1 (by decide) (by decide) k) ?_
        exact K_42 _ X_28 e_28 (by rw [hq_28, own_ex_28, if_neg hc31_23, if_pos hc37_24])
      · refine own_step (f' := (mkF m 40 #[.val (.int p1)] [])) (fun _ k => XS.icmpNo X_28.here hx rfl (hb hby d2_37) rfl (flt hc37_24).2.2.1 k) ?_
        refine own_step (f' := (mkF m 41 #[.val (.int p1)] [(.int (1 : Int32))])) (fun _ k => XS.iconst X_28.here hx rfl (hb hby d2_40) k) ?_
        refine own_out (v := some (.int (1 : Int32))) X_28 hlk (fun h => by rw [Bd.returns] at h; cases h) (fun fs hr => retN X_28 hx (t := .boolean) Bd.returns (by simp) (hb hby d2_41) hr) (by decide) (by decide) ?_
        rw [e_28]
        exact ⟨(by rw [hq_28, own_ex_28, if_neg hc31_23, if_neg hc37_24]), rfl, rfl⟩
  have K_14 : ∀ (T_14 : State), Stand p l e R2 s m #[(.int p1)] below meth c T_14 [] 0 0 → T_14.heap = h0 → own_ex_0 p1 = own_ex_14 p1 → own_Goes p e below s (Q2 Z p1 h0 n0) R2.cells R2.slots T_14 (mkF m 14 #[.val (.int p1)] []) := by
    intro T_14 X_14 e_14 hq_14
    refine own_step (f' := (mkF m 15 #[.val (.int p1)] [(.int p1)])) (fun _ k => XS.iloadN X_14.here hx rfl (hb hby d2_14) rfl k) ?_
    refine own_step (f' := (mkF m 17 #[.val (.int p1)] [(.int (65 : Int32)), (.int p1)])) (fun _ k => XS.bipush X_14.here hx rfl (hb hby d2_15) k) ?_
    by_cases hc17_25 : p1 < (65 : Int32)
    · refine own_step (f' := (mkF m 28 #[.val (.int p1)] [])) (fun _ k => XS.icmpYes X_14.here hx rfl (pc0 := 17) (pc' := 28) rfl (hb hby d2_17) rfl (tlt hc17_25).1 (by decide) (by decide) k) ?_
      exact K_28 _ X_14 e_14 (by rw [hq_14, own_ex_14, if_pos hc17_25])
    · refine own_step (f' := (mkF m 20 #[.val (.int p1)] [])) (fun _ k => XS.icmpNo X_14.here hx rfl (hb hby d2_17) rfl (flt hc17_25).1 k) ?_
      refine own_step (f' := (mkF m 21 #[.val (.int p1)] [(.int p1)])) (fun _ k => XS.iloadN X_14.here hx rfl (hb hby d2_20) rfl k) ?_
      refine own_step (f' := (mkF m 23 #[.val (.int p1)] [(.int (90 : Int32)), (.int p1)])) (fun _ k => XS.bipush X_14.here hx rfl (hb hby d2_21) k) ?_
      by_cases hc23_26 : (90 : Int32) < p1
      · refine own_step (f' := (mkF m 28 #[.val (.int p1)] [])) (fun _ k => XS.icmpYes X_14.here hx rfl (pc0 := 23) (pc' := 28) rfl (hb hby d2_23) rfl (tlt hc23_26).2.2.1 (by decide) (by decide) k) ?_
        exact K_28 _ X_14 e_14 (by rw [hq_14, own_ex_14, if_neg hc17_25, if_pos hc23_26])
      · refine own_step (f' := (mkF m 26 #[.val (.int p1)] [])) (fun _ k => XS.icmpNo X_14.here hx rfl (hb hby d2_23) rfl (flt hc23_26).2.2.1 k) ?_
        refine own_step (f' := (mkF m 27 #[.val (.int p1)] [(.int (1 : Int32))])) (fun _ k => XS.iconst X_14.here hx rfl (hb hby d2_26) k) ?_
        refine own_out (v := some (.int (1 : Int32))) X_14 hlk (fun h => by rw [Bd.returns] at h; cases h) (fun fs hr => retN X_14 hx (t := .boolean) Bd.returns (by simp) (hb hby d2_27) hr) (by decide) (by decide) ?_
        rw [e_14]
        exact ⟨(by rw [hq_14, own_ex_14, if_neg hc17_25, if_neg hc23_26]), rfl, rfl⟩
  refine own_step (f' := (mkF m 1 #[.val (.int p1)] [(.int p1)])) (fun _ k => XS.iloadN X0.here hx rfl (hb hby d2_0) rfl k) ?_
  refine own_step (f' := (mkF m 3 #[.val (.int p1)] [(.int (97 : Int32)), (.int p1)])) (fun _ k => XS.bipush X0.here hx rfl (hb hby d2_1) k) ?_
  by_cases hc3_27 : p1 < (97 : Int32)
  · refine own_step (f' := (mkF m 14 #[.val (.int p1)] [])) (fun _ k => XS.icmpYes X0.here hx rfl (pc0 := 3) (pc' := 14) rfl (hb hby d2_3) rfl (tlt hc3_27).1 (by decide) (by decide) k) ?_
    exact K_14 _ X0 e0 (by rw [own_ex_0, if_pos hc3_27])
  · refine own_step (f' := (mkF m 6 #[.val (.int p1)] [])) (fun _ k => XS.icmpNo X0.here hx rfl (hb hby d2_3) rfl (flt hc3_27).1 k) ?_
    refine own_step (f' := (mkF m 7 #[.val (.int p1)] [(.int p1)])) (fun _ k => XS.iloadN X0.here hx rfl (hb hby d2_6) rfl k) ?_
    refine own_step (f' := (mkF m 9 #[.val (.int p1)] [(.int (122 : Int32)), (.int p1)])) (fun _ k => XS.bipush X0.here hx rfl (hb hby d2_7) k) ?_
    by_cases hc9_28 : (122 : Int32) < p1
    · refine own_step (f' := (mkF m 14 #[.val (.int p1)] [])) (fun _ k => XS.icmpYes X0.here hx rfl (pc0 := 9) (pc' := 14) rfl (hb hby d2_9) rfl (tlt hc9_28).2.2.1 (by decide) (by decide) k) ?_
      exact K_14 _ X0 e0 (by rw [own_ex_0, if_neg hc3_27, if_pos hc9_28])
    · refine own_step (f' := (mkF m 12 #[.val (.int p1)] [])) (fun _ k => XS.icmpNo X0.here hx rfl (hb hby d2_9) rfl (flt hc9_28).2.2.1 k) ?_
      refine own_step (f' := (mkF m 13 #[.val (.int p1)] [(.int (1 : Int32))])) (fun _ k => XS.iconst X0.here hx rfl (hb hby d2_12) k) ?_
      refine own_out (v := some (.int (1 : Int32))) X0 hlk (fun h => by rw [Bd.returns] at h; cases h) (fun fs hr => retN X0 hx (t := .boolean) Bd.returns (by simp) (hb hby d2_13) hr) (by decide) (by decide) ?_
      rw [e0]
      exact ⟨(by rw [own_ex_0, if_neg hc3_27, if_neg hc9_28]), rfl, rfl⟩
def own_ct (cl : Cell) (p : Int32) : Int32 := if p < (128 : Int32) then (if atv cl p = (0 : Int32) then 0 else 1) else 0
theorem d1_0 : decode prog_12_method_2_code 0 = .ok (.iload_n 0, 1) := by decide +kernel
theorem d1_1 : decode prog_12_method_2_code 1 = .ok (.getstatic 7, 3) := by decide +kernel
theorem d1_4 : decode prog_12_method_2_code 4 = .ok (.arraylength, 1) := by decide +kernel
theorem d1_5 : decode prog_12_method_2_code 5 = .ok (.if_icmp .ge 15, 3) := by decide +kernel
theorem d1_8 : decode prog_12_method_2_code 8 = .ok (.getstatic 7, 3) := by decide +kernel
theorem d1_11 : decode prog_12_method_2_code 11 = .ok (.iload_n 0, 1) := by decide +kernel
theorem d1_12 : decode prog_12_method_2_code 12 = .ok (.baload, 1) := by decide +kernel
theorem d1_13 : decode prog_12_method_2_code 13 = .ok (.ifCond .eq 7, 3) := by decide +kernel
theorem d1_16 : decode prog_12_method_2_code 16 = .ok (.iconst 1, 1) := by decide +kernel
theorem d1_17 : decode prog_12_method_2_code 17 = .ok (.goto 4, 3) := by decide +kernel
theorem d1_20 : decode prog_12_method_2_code 20 = .ok (.iconst 0, 1) := by decide +kernel
theorem d1_21 : decode prog_12_method_2_code 21 = .ok (.ireturn, 1) := by decide +kernel
theorem pn_1 : plainName "com/example/fpi_to_urn/fpitourn/PubidChars" = true := by first | (simp [plainName, overriddenIn]; done) | decide +kernel
theorem ef_1 (m : MethodId) (x0 : Int32) : entryFrame m #[(.int x0)] 1 = mkF m 0 #[.val (.int x0)] [] := by first | (simp [entryFrame, mkF, argsToLocals, Value.category]; done) | rfl
def Q1 (Z : State) (p1 : Int32) (w1 : Addr) (cl : Cell) (h0 : Heap) (n0 : Nat) (v : Option Value) (h : Heap) (L : List Loc) : Prop := v = some (.int (own_ct cl p1)) ∧ L = [] ∧ h = h0
abbrev R1 : Room := { frames := 0, cells := 0, slots := 0, locals := 0 }
set_option maxRecDepth 65536 in
set_option maxHeartbeats 40000000 in
theorem rm1 (l : Launch) (Z : State) (a0 : Array Value) (hw : ∀ d ∈ tables_1, d.before a0 Z = true) (ws : List Jvm.Cond) (p1 : Int32) (w1 : Addr) (cl : Cell) (h0 : Heap) (n0 : Nat) (Z0 : n0 ≤ h0.size) (S_TABLE : Sta Z h0 "com/example/fpi_to_urn/fpitourn/PubidChars" "TABLE" "[Z" (.ref w1)) (hTab : Tab Z h0 w1 cl .boolean (128 : Int32)) (hp0 : ¬ p1 < 0) :
    MetFree l (⟨"com/example/fpi_to_urn/fpitourn/PubidChars", "contains", "(C)Z"⟩ : MethodName) (head1 (Jvm.Cond.code (⟨"com/example/fpi_to_urn/fpitourn/PubidChars", "contains", "(C)Z"⟩ : MethodName) prog_12_method_2_code 1 (some .boolean) :: ws) R1) (fun a U => a = #[(.int p1)] ∧ Z.Warmed39 U.vm ∧ U.heap = h0) (fun _ _ _ _ _ => True) (fun _ U o U' => ∃ v L, o = .returned v ∧ Q1 Z p1 w1 cl h0 n0 v U'.heap L ∧ FrameEnd U o U' L R1.cells R1.slots) := by
  refine MetFree.of_bodySF (plainFor_of_name pn_1) hisR ?_
  intro p e s m args below meth c s₁ Bd hml0 hP hK
  obtain ⟨rfl, hZ, hh⟩ := hP
  have hx := Bd.exec
  have hby := Bd.bytes
  have hlk : meth.locks = false := BodyLoose.notSynchronized Bd
  have hml : c.maxLocals = 1 := hml0
  have hown : s.vm.findClass "com/example/fpi_to_urn/fpitourn/PubidChars" = some m.cls := findClass_of_methodNamed Bd.named
  have hnm := (name_of_methodNamed Bd.named Bd.method).1
  have X0 : Stand p l e R1 s m #[(.int p1)] below meth c s₁ [] 0 0 := Stand.of_body Bd
  have e0 : s₁.heap = h0 := by rw [← hh, Bd.state]; rfl
  have N0 := Fr.nil n0
  show own_Goes p e below s (Q1 Z p1 w1 cl h0 n0) R1.cells R1.slots s₁ (entryFrame m #[(.int p1)] 1)
  rw [ef_1 m p1]
  refine own_step (f' := (mkF m 1 #[.val (.int p1)] [(.int p1)])) (fun _ k => XS.iloadN X0.here hx rfl (hb hby d1_0) rfl k) ?_
  obtain ⟨T1, X1, e1, st1⟩ := getS2 X0 hx hZ hown (host := "") (Or.inl (hw _ (List.mem_of_getElem? (i := 4) rfl))) Via.refl e0 S_TABLE (g := (mkF m 1 #[.val (.int p1)] [(.int p1)])) rfl (hb hby d1_1)
  refine own_step (f' := (mkF m 4 #[.val (.int p1)] [(.ref w1), (.int p1)])) st1 ?_
  refine own_step (f' := (mkF m 5 #[.val (.int p1)] [(.int (128 : Int32)), (.int p1)])) (fun _ k => X1.arraylength hx (by rw [e1]; exact hTab.1.1) (State.isArrayOf_alike hZ.alike hTab.1.2.1) (g := (mkF m 4 #[.val (.int p1)] [(.ref w1), (.int p1)])) rfl rfl (hb hby d1_4) _ (by rw [len_of hTab.2.1 hTab.2.2.1]; exact k)) ?_
  by_cases hc5_2 : p1 < (128 : Int32)
  · refine own_step (f' := (mkF m 8 #[.val (.int p1)] [])) (fun _ k => XS.icmpNo X1.here hx rfl (hb hby d1_5) rfl (tlt hc5_2).2.1 k) ?_
    obtain ⟨T3, X3, e3, st3⟩ := getS2 X1 hx hZ hown (host := "") (Or.inl (hw _ (List.mem_of_getElem? (i := 4) rfl))) Via.refl e1 S_TABLE (g := (mkF m 8 #[.val (.int p1)] [])) rfl (hb hby d1_8)
    refine own_step (f' := (mkF m 11 #[.val (.int p1)] [(.ref w1)])) st3 ?_
    refine own_step (f' := (mkF m 12 #[.val (.int p1)] [(.int p1), (.ref w1)])) (fun _ k => XS.iloadN X3.here hx rfl (hb hby d1_11) rfl k) ?_
    have hin : ¬ (p1 < 0 ∨ cl.slots.size ≤ (p1).toNatClampNeg) := inb_of hTab.2.1 ⟨hp0, hc5_2⟩
    refine own_step (f' := (mkF m 13 #[.val (.int p1)] [(.int (atv cl p1))])) (fun _ k => X3.baloadBooleans hx (j := p1) (v := .int (atv cl p1)) (by rw [e3]; exact hTab.1.1) (State.isArrayOf_alike hZ.alike hTab.1.2.1) hTab.1.2.2 hin (hTab.2.2.2 p1 hin) (g := (mkF m 12 #[.val (.int p1)] [(.int p1), (.ref w1)])) rfl rfl (hb hby d1_12) _ k) ?_
    by_cases hc13_4 : (atv cl p1) = (0 : Int32)
    · refine own_step (f' := (mkF m 20 #[.val (.int p1)] [])) (fun _ k => XS.ifYes X3.here hx rfl (pc0 := 13) (pc' := 20) rfl (hb hby d1_13) rfl ((if0 _ _).trans (teq hc13_4).1) (by decide) (by decide) k) ?_
      refine own_step (f' := (mkF m 21 #[.val (.int p1)] [(.int (0 : Int32))])) (fun _ k => XS.iconst X3.here hx rfl (hb hby d1_20) k) ?_
      refine own_out (v := some (.int (0 : Int32))) X3 hlk (fun h => by rw [Bd.returns] at h; cases h) (fun fs hr => retN X3 hx (t := .boolean) Bd.returns (by simp) (hb hby d1_21) hr) (by decide) (by decide) ?_
      rw [e3]
      exact ⟨(by rw [own_ct, if_pos hc5_2, if_pos hc13_4]), rfl, rfl⟩
    · refine own_step (f' := (mkF m 16 #[.val (.int p1)] [])) (fun _ k => XS.ifNo X3.here hx rfl (hb hby d1_13) rfl ((if0 _ _).trans (feq hc13_4).1) k) ?_
      refine own_step (f' := (mkF m 17 #[.val (.int p1)] [(.int (1 : Int32))])) (fun _ k => XS.iconst X3.here hx rfl (hb hby d1_16) k) ?_
      refine own_step (f' := (mkF m 21 #[.val (.int p1)] [(.int (1 : Int32))])) (fun _ k => XS.goto X3.here hx rfl (pc0 := 17) (pc' := 21) rfl (hb hby d1_17) (by decide) (by decide) k) ?_
      refine own_out (v := some (.int (1 : Int32))) X3 hlk (fun h => by rw [Bd.returns] at h; cases h) (fun fs hr => retN X3 hx (t := .boolean) Bd.returns (by simp) (hb hby d1_21) hr) (by decide) (by decide) ?_
      rw [e3]
      exact ⟨(by rw [own_ct, if_pos hc5_2, if_neg hc13_4]), rfl, rfl⟩
  · refine own_step (f' := (mkF m 20 #[.val (.int p1)] [])) (fun _ k => XS.icmpYes X1.here hx rfl (pc0 := 5) (pc' := 20) rfl (hb hby d1_5) rfl (flt hc5_2).2.1 (by decide) (by decide) k) ?_
    refine own_step (f' := (mkF m 21 #[.val (.int p1)] [(.int (0 : Int32))])) (fun _ k => XS.iconst X1.here hx rfl (hb hby d1_20) k) ?_
    refine own_out (v := some (.int (0 : Int32))) X1 hlk (fun h => by rw [Bd.returns] at h; cases h) (fun fs hr => retN X1 hx (t := .boolean) Bd.returns (by simp) (hb hby d1_21) hr) (by decide) (by decide) ?_
    rw [e1]
    exact ⟨(by rw [own_ct, if_neg hc5_2]), rfl, rfl⟩
def own_tab : List Int32 := [0, 0, 0, 0, 0, 0, 0, 0, 0, 0, 1, 0, 0, 1, 0, 0, 0, 0, 0, 0, 0, 0, 0, 0, 0, 0, 0, 0, 0, 0, 0, 0, 1, 1, 0, 1, 1, 1, 0, 1, 1, 1, 1, 1, 1, 1, 1, 1, 1, 1, 1, 1, 1, 1, 1, 1, 1, 1, 1, 1, 0, 1, 0, 1, 1, 1, 1, 1, 1, 1, 1, 1, 1, 1, 1, 1, 1, 1, 1, 1, 1, 1, 1, 1, 1, 1, 1, 1, 1, 1, 1, 0, 0, 0, 0, 1, 0, 1, 1, 1, 1, 1, 1, 1, 1, 1, 1, 1, 1, 1, 1, 1, 1, 1, 1, 1, 1, 1, 1, 1, 1, 1, 1, 0, 0, 0, 0, 0]
def own_Tabled (cl : Cell) : Prop := ∀ k : Nat, k < 128 → atv cl (Int32.ofNat k) = own_tab.getD k 0
theorem own_fin : ∀ k : Fin 128, own_ex_0 (Int32.ofNat k.val) = if own_tab.getD k.val 0 = (0 : Int32) then 0 else 1 := by decide +kernel
theorem own_big (x : Int32) (h : ¬ x < (128 : Int32)) : own_ex_0 x = 0 := by
  rw [Int32.lt_iff_toInt_lt] at h
  have e : (128 : Int32).toInt = 128 := by decide
  have nlt : ∀ k : Int32, k.toInt < 128 → ¬ x < k := fun k hk q => by rw [Int32.lt_iff_toInt_lt] at q; omega
  have lt : ∀ k : Int32, k.toInt < 128 → k < x := fun k hk => by rw [Int32.lt_iff_toInt_lt]; omega
  have ne : ∀ k : Int32, k.toInt < 128 → ¬ x = k := fun k hk q => by rw [q] at h; omega
  unfold own_ex_0 own_ex_14 own_ex_28 own_ex_42
  simp only [nlt 97 (by decide), lt 122 (by decide), nlt 65 (by decide), lt 90 (by decide), nlt 48 (by decide), lt 57 (by decide), ne 32 (by decide), ne 13 (by decide), ne 10 (by decide), ne 45 (by decide), ne 39 (by decide), ne 40 (by decide), ne 41 (by decide), ne 43 (by decide), ne 44 (by decide), ne 46 (by decide), ne 47 (by decide), ne 58 (by decide), ne 61 (by decide), ne 63 (by decide), ne 59 (by decide), ne 33 (by decide), ne 42 (by decide), ne 35 (by decide), ne 64 (by decide), ne 36 (by decide), ne 95 (by decide), ne 37 (by decide), if_true, if_false]
theorem own_all (cl : Cell) (hT : own_Tabled cl) (x : Int32) (hx : 0 ≤ x.toInt) : own_ct cl x = own_ex_0 x := by
  unfold own_ct
  by_cases h : x < (128 : Int32)
  · rw [if_pos h]
    rw [Int32.lt_iff_toInt_lt] at h
    have e : (128 : Int32).toInt = 128 := by decide
    obtain ⟨k, hk⟩ : ∃ k : Nat, x.toInt = k := ⟨x.toInt.toNat, by omega⟩
    have hk2 : k < 128 := by omega
    have hx : x = Int32.ofNat k := by
      apply Int32.toInt_inj.mp
      rw [hk, Int32.toInt_ofNat_of_lt (by omega)]
    subst hx
    rw [own_fin ⟨k, hk2⟩, hT k hk2]
  · rw [if_neg h, own_big x h]
theorem own_chr (i v : Int32) (hv : v = if ((i.toUInt32 >>> ((16 : Int32) &&& 31).toUInt32).toInt32) &&& (1 : Int32) = (0 : Int32) then i.toUInt32.toUInt16.toUInt32.toInt32 else (i &&& (127 : Int32)).toUInt32.toUInt16.toUInt32.toInt32) : 0 ≤ v.toInt := by
  subst hv
  split
  · exact (c_i2c i).2.1
  · exact (c_i2c _).2.1
theorem own_nn (x : Int32) (h : 0 ≤ x.toInt) : ¬ x < 0 := by
  rw [Int32.lt_iff_toInt_lt]
  have e0 : (0 : Int32).toInt = 0 := by decide
  omega
theorem pd_0 : parseMethodDescriptor "(C)Z" = some ⟨[.char], some .boolean⟩ := by decide +kernel
theorem ef_0 (m : MethodId) (x0 : Int32) : entryFrame m #[(.int x0)] maxLocals = mkF m 0 #[.val (.int x0), .unset] [] := by first | (simp [entryFrame, mkF, argsToLocals, Value.category, maxLocals]; done) | rfl
def Q0 (Z : State) (i1 : Int32) (w1 : Addr) (cl : Cell) (h0 : Heap) (n0 : Nat) (v : Option Value) (h : Heap) (L : List Loc) : Prop := v = some (.int 1) ∧ Fr n0 L
set_option maxRecDepth 65536 in
set_option maxHeartbeats 40000000 in
theorem rm0 (l : Launch) (Z : State) (a0 : Array Value) (hw : ∀ d ∈ tables_1, d.before a0 Z = true) (ws : List Jvm.Cond) (i1 : Int32) (w1 : Addr) (cl : Cell) (h0 : Heap) (n0 : Nat) (Z0 : n0 ≤ h0.size) (S_TABLE : Sta Z h0 "com/example/fpi_to_urn/fpitourn/PubidChars" "TABLE" "[Z" (.ref w1)) (hTab : Tab Z h0 w1 cl .boolean (128 : Int32)) (hT : own_Tabled cl) :
    MetFree l x (head1 (Jvm.Cond.code x code maxLocals ret :: ws) room_1) (fun a U => a = #[(.int i1)] ∧ Z.Warmed39 U.vm ∧ U.heap = h0) (fun _ _ _ _ _ => True) (fun _ U o U' => ∃ v L, o = .returned v ∧ Q0 Z i1 w1 cl h0 n0 v U'.heap L ∧ FrameEnd U o U' L room_1.cells room_1.slots) := by
  refine MetFree.of_bodySF (plainFor_of_name pn_0) hisR ?_
  intro p e s m args below meth c s₁ Bd hml0 hP hK
  obtain ⟨rfl, hZ, hh⟩ := hP
  have hx := Bd.exec
  have hby := Bd.bytes
  have hlk : meth.locks = false := BodyLoose.notSynchronized Bd
  have hml : c.maxLocals = 2 := hml0
  have hown : s.vm.findClass "com/example/fpi_to_urn/fpitourn/PubidCharsContainsPinLaw" = some m.cls := findClass_of_methodNamed Bd.named
  have hnm := (name_of_methodNamed Bd.named Bd.method).1
  have X0 : Stand p l e room_1 s m #[(.int i1)] below meth c s₁ [] 0 0 := Stand.of_body Bd
  have e0 : s₁.heap = h0 := by rw [← hh, Bd.state]; rfl
  have N0 := Fr.nil n0
  show own_Goes p e below s (Q0 Z i1 w1 cl h0 n0) room_1.cells room_1.slots s₁ (entryFrame m #[(.int i1)] maxLocals)
  rw [ef_0 m i1]
  refine own_step (f' := (mkF m 1 #[.val (.int i1), .unset] [(.int i1)])) (fun _ k => XS.iloadN X0.here hx rfl (hb hby at_0) rfl k) ?_
  refine own_step (f' := (mkF m 3 #[.val (.int i1), .unset] [(.int (16 : Int32)), (.int i1)])) (fun _ k => XS.bipush X0.here hx rfl (hb hby at_1) k) ?_
  refine own_step (f' := (mkF m 4 #[.val (.int i1), .unset] [(.int ((i1.toUInt32 >>> ((16 : Int32) &&& 31).toUInt32).toInt32))])) (fun _ k => XS.iushr X0.here hx rfl (hb hby at_3) rfl k) ?_
  refine own_step (f' := (mkF m 5 #[.val (.int i1), .unset] [(.int (1 : Int32)), (.int ((i1.toUInt32 >>> ((16 : Int32) &&& 31).toUInt32).toInt32))])) (fun _ k => XS.iconst X0.here hx rfl (hb hby at_4) k) ?_
  refine own_step (f' := (mkF m 6 #[.val (.int i1), .unset] [(.int (((i1.toUInt32 >>> ((16 : Int32) &&& 31).toUInt32).toInt32) &&& (1 : Int32)))])) (fun _ k => XS.iand X0.here hx rfl (hb hby at_5) rfl k) ?_
  have J6_2 : ∀ (T6_2 : State) (v6_2_l1 : Int32), Stand p l e room_1 s m #[(.int i1)] below meth c T6_2 [] 0 0 → T6_2.heap = h0 → v6_2_l1 = (if (((i1.toUInt32 >>> ((16 : Int32) &&& 31).toUInt32).toInt32) &&& (1 : Int32)) = (0 : Int32) then (i1.toUInt32.toUInt16.toUInt32.toInt32) else ((i1 &&& (127 : Int32)).toUInt32.toUInt16.toUInt32.toInt32)) → own_Goes p e below s (Q0 Z i1 w1 cl h0 n0) room_1.cells room_1.slots T6_2 (mkF m 21 #[.val (.int i1), .val (.int v6_2_l1)] []) := by
    intro T6_2 v6_2_l1 X6_2 e6_2 hv6_2_0
    have hch := own_chr _ _ hv6_2_0
    refine own_step (f' := (mkF m 22 #[.val (.int i1), .val (.int v6_2_l1)] [(.int v6_2_l1)])) (fun _ k => XS.iloadN X6_2.here hx rfl (hb hby at_21) rfl k) ?_
    have hp3_hTab : Tab Z h0 w1 cl .boolean (128 : Int32) := hTab
    have hp3_hp0 : ¬ v6_2_l1 < 0 := own_nn _ hch
    have Zq3 : n0 ≤ h0.size := Z0
    obtain ⟨_, _, ⟨T3, L3, k3, n3⟩, -, X3, ⟨Lc3, hQ3, l3, y3, z3⟩, st3⟩ := Jvm.LawKit.callS X6_2 hx (y := (⟨"com/example/fpi_to_urn/fpitourn/PubidChars", "contains", "(C)Z"⟩ : MethodName)) hown (mvT hZ (hw _ (List.mem_of_getElem? (i := 0) rfl))) (mvT hZ (hw _ (List.mem_of_getElem? (i := 1) rfl))) (mvT hZ (hw _ (List.mem_of_getElem? (i := 2) rfl))) (mvT hZ (hw _ (List.mem_of_getElem? (i := 3) rfl))) (by decide) (backOf (W := 0) (rm1 l Z a0 hw [] v6_2_l1 w1 cl h0 n0 Zq3 S_TABLE hp3_hTab hp3_hp0) hZ (hw _ (List.mem_of_getElem? (i := 3) rfl)) (hw _ (List.mem_of_getElem? (i := 2) rfl)) (by decide) (by decide)) (g := (mkF m 22 #[.val (.int i1), .val (.int v6_2_l1)] [(.int v6_2_l1)])) rfl (by rw [hml]; rfl) (argsL := [(.int v6_2_l1)]) (rest := []) (lenOf pd_0 rfl) rfl (by show 2 * 0 + _ ≤ _; exact Nat.le_of_eq rfl) (hb hby at_22) (fun _ _ => ⟨rfl, e6_2, (by decide : 0 + 0 ≤ _), (by decide : 0 + 0 ≤ _)⟩)
    dsimp only [Pt.U, Pt.locs, Pt.cells, Pt.slots] at X3 l3 y3 z3 st3 hQ3
    subst l3 y3 z3
    obtain ⟨rfl, rfl, e3⟩ := hQ3
    try rw [List.append_nil] at X3
    refine own_step (f' := (mkF m 25 #[.val (.int i1), .val (.int v6_2_l1)] [(.int (own_ct cl v6_2_l1))])) st3 ?_
    refine own_step (f' := (mkF m 26 #[.val (.int i1), .val (.int v6_2_l1)] [(.int v6_2_l1), (.int (own_ct cl v6_2_l1))])) (fun _ k => XS.iloadN X3.here hx rfl (hb hby at_25) rfl k) ?_
    have Zq4 : n0 ≤ h0.size := Z0
    obtain ⟨_, _, ⟨T4, L4, k4, n4⟩, -, X4, ⟨Lc4, hQ4, l4, y4, z4⟩, st4⟩ := Jvm.LawKit.callS X3 hx (y := (⟨"com/example/fpi_to_urn/fpitourn/PubidCharsContainsPinLaw", "expected", "(C)Z"⟩ : MethodName)) hown (mvT hZ (hw _ (List.mem_of_getElem? (i := 6) rfl))) (mvT hZ (hw _ (List.mem_of_getElem? (i := 7) rfl))) (mvT hZ (hw _ (List.mem_of_getElem? (i := 8) rfl))) (mvT hZ (hw _ (List.mem_of_getElem? (i := 9) rfl))) (by decide) (backOf (W := 1) (rm2 l Z a0 hw [] v6_2_l1 h0 n0 Zq4 ) hZ (hw _ (List.mem_of_getElem? (i := 9) rfl)) (hw _ (List.mem_of_getElem? (i := 8) rfl)) (by decide) (by decide)) (g := (mkF m 26 #[.val (.int i1), .val (.int v6_2_l1)] [(.int v6_2_l1), (.int (own_ct cl v6_2_l1))])) rfl (by rw [hml]; rfl) (argsL := [(.int v6_2_l1)]) (rest := [(.int (own_ct cl v6_2_l1))]) (lenOf pd_0 rfl) rfl (by show 2 * 0 + _ ≤ _; exact Nat.le_of_eq rfl) (hb hby at_26) (fun _ _ => ⟨rfl, e3, (by decide : 0 + 0 ≤ _), (by decide : 0 + 0 ≤ _)⟩)
    dsimp only [Pt.U, Pt.locs, Pt.cells, Pt.slots] at X4 l4 y4 z4 st4 hQ4
    subst l4 y4 z4
    obtain ⟨rfl, rfl, e4⟩ := hQ4
    try rw [List.append_nil] at X4
    refine own_step (f' := (mkF m 29 #[.val (.int i1), .val (.int v6_2_l1)] [(.int (own_ex_0 v6_2_l1)), (.int (own_ct cl v6_2_l1))])) st4 ?_
    have hf29_5 : (own_ct cl v6_2_l1) = (own_ex_0 v6_2_l1) := own_all _ hT _ hch
    refine own_step (f' := (mkF m 32 #[.val (.int i1), .val (.int v6_2_l1)] [])) (fun _ k => XS.icmpNo X4.here hx rfl (hb hby at_29) rfl (teq hf29_5).2 k) ?_
    refine own_step (f' := (mkF m 33 #[.val (.int i1), .val (.int v6_2_l1)] [(.int (1 : Int32))])) (fun _ k => XS.iconst X4.here hx rfl (hb hby at_32) k) ?_
    refine own_step (f' := (mkF m 37 #[.val (.int i1), .val (.int v6_2_l1)] [(.int (1 : Int32))])) (fun _ k => XS.goto X4.here hx rfl (pc0 := 33) (pc' := 37) rfl (hb hby at_33) (by decide) (by decide) k) ?_
    refine own_out (v := some (.int (1 : Int32))) X4 hlk (fun h => by rw [Bd.returns] at h; cases h) (fun fs hr => retN X4 hx (t := .boolean) Bd.returns (by simp) (hb hby at_37) hr) (by decide) (by decide) ?_
    exact ⟨rfl, N0⟩
  by_cases hc6_1 : (((i1.toUInt32 >>> ((16 : Int32) &&& 31).toUInt32).toInt32) &&& (1 : Int32)) = (0 : Int32)
  · refine own_step (f' := (mkF m 18 #[.val (.int i1), .unset] [])) (fun _ k => XS.ifYes X0.here hx rfl (pc0 := 6) (pc' := 18) rfl (hb hby at_6) rfl ((if0 _ _).trans (teq hc6_1).1) (by decide) (by decide) k) ?_
    refine own_step (f' := (mkF m 19 #[.val (.int i1), .unset] [(.int i1)])) (fun _ k => XS.iloadN X0.here hx rfl (hb hby at_18) rfl k) ?_
    refine own_step (f' := (mkF m 20 #[.val (.int i1), .unset] [(.int (i1.toUInt32.toUInt16.toUInt32.toInt32))])) (fun _ k => XS.i2c X0.here hx rfl (hb hby at_19) rfl k) ?_
    refine own_step (f' := (mkF m 21 #[.val (.int i1), .val (.int (i1.toUInt32.toUInt16.toUInt32.toInt32))] [])) (fun _ k => XS.istoreN X0.here hx rfl (hb hby at_20) rfl (l' := #[.val (.int i1), .val (.int (i1.toUInt32.toUInt16.toUInt32.toInt32))]) rfl k) ?_
    exact J6_2 _ (i1.toUInt32.toUInt16.toUInt32.toInt32) X0 e0 (by rw [if_pos hc6_1])
  · refine own_step (f' := (mkF m 9 #[.val (.int i1), .unset] [])) (fun _ k => XS.ifNo X0.here hx rfl (hb hby at_6) rfl ((if0 _ _).trans (feq hc6_1).1) k) ?_
    refine own_step (f' := (mkF m 10 #[.val (.int i1), .unset] [(.int i1)])) (fun _ k => XS.iloadN X0.here hx rfl (hb hby at_9) rfl k) ?_
    refine own_step (f' := (mkF m 12 #[.val (.int i1), .unset] [(.int (127 : Int32)), (.int i1)])) (fun _ k => XS.bipush X0.here hx rfl (hb hby at_10) k) ?_
    refine own_step (f' := (mkF m 13 #[.val (.int i1), .unset] [(.int (i1 &&& (127 : Int32)))])) (fun _ k => XS.iand X0.here hx rfl (hb hby at_12) rfl k) ?_
    refine own_step (f' := (mkF m 14 #[.val (.int i1), .unset] [(.int ((i1 &&& (127 : Int32)).toUInt32.toUInt16.toUInt32.toInt32))])) (fun _ k => XS.i2c X0.here hx rfl (hb hby at_13) rfl k) ?_
    refine own_step (f' := (mkF m 15 #[.val (.int i1), .val (.int ((i1 &&& (127 : Int32)).toUInt32.toUInt16.toUInt32.toInt32))] [])) (fun _ k => XS.istoreN X0.here hx rfl (hb hby at_14) rfl (l' := #[.val (.int i1), .val (.int ((i1 &&& (127 : Int32)).toUInt32.toUInt16.toUInt32.toInt32))]) rfl k) ?_
    refine own_step (f' := (mkF m 21 #[.val (.int i1), .val (.int ((i1 &&& (127 : Int32)).toUInt32.toUInt16.toUInt32.toInt32))] [])) (fun _ k => XS.goto X0.here hx rfl (pc0 := 15) (pc' := 21) rfl (hb hby at_15) (by decide) (by decide) k) ?_
    exact J6_2 _ ((i1 &&& (127 : Int32)).toUInt32.toUInt16.toUInt32.toInt32) X0 e0 (by rw [if_neg hc6_1])
theorem own_eqInt {t : Term} {n : Int32} {args : Array Value} {s : State} (h : (Jvm.Cond.eq t (.int n)).value args s none s [] = some true) : t.eval args s none [] s = some (.int n) := by
  simp only [Cond.value] at h
  have hn : (Term.int n).eval args s none [] s = some (.int n) := rfl
  rw [hn] at h
  cases hv : t.eval args s none [] s with
  | none => simp [hv] at h
  | some v =>
    cases v with
    | int x => simp [hv] at h; rw [h]
    | _ => simp [hv] at h
theorem own_at {args : Array Value} {s : State} {a : Addr} {cl : Cell} {t : Term} {n v : Int32} (ht : ∀ idx, t.eval args s none idx s = some (.ref a)) (hc : s.heap[a]? = some cl) (h : (Jvm.Cond.eq (.elem t (.int n)) (.int v)).value args s none s [] = some true) : atv cl n = v :=
  atv_of (elem_in (own_eqInt h) (ht []) rfl hc).2
theorem own_eqIdx {t : Term} {n : Int32} {args : Array Value} {s : State} {idx : List Nat} (h : (Jvm.Cond.eq t (.int n)).value args s none s idx = some true) : t.eval args s none idx s = some (.int n) := by
  simp only [Cond.value] at h
  have hn : (Term.int n).eval args s none idx s = some (.int n) := rfl
  rw [hn] at h
  cases hv : t.eval args s none idx s with
  | none => simp [hv] at h
  | some v =>
    cases v with
    | int x => simp [hv] at h; rw [h]
    | _ => simp [hv] at h
theorem own_or {c d : Jvm.Cond} {args : Array Value} {s : State} {idx : List Nat} (h : (Jvm.Cond.or c d).value args s none s idx = some true) (hc : c.value args s none s idx = some false) : d.value args s none s idx = some true := by
  simp only [Cond.value, hc] at h
  cases hd : d.value args s none s idx with
  | none => simp [hd] at h
  | some b => simpa [hd] using h
theorem own_in {args : Array Value} {s : State} {a : Addr} {cl : Cell} {t : Term} {v : Int32} (ht : ∀ idx, t.eval args s none idx s = some (.ref a)) (hc : s.heap[a]? = some cl) (k : Int32) (hk : ¬ k < 0)
    (h : (Jvm.Cond.eq (.elem t (.index 0)) (.int v)).value args s none s [k.toNatClampNeg] = some true) : atv cl k = v :=
  atv_of (elem_in (own_eqIdx h) (ht _) (idx_at hk) hc).2
theorem own_len {args : Array Value} {s : State} {a : Addr} {cl : Cell} {t : Term} {n : Int32} (ht : t.eval args s none [] s = some (.ref a)) (hc : s.arrayAt? a = some cl) (h : (Term.length t).eval args s none [] s = some (.int n)) : cl.slots.size < 2 ^ 31 ∧ cl.slots.size.toInt32 = n := by
  by_cases q : cl.slots.size < 2 ^ 31
  · rw [len_f ht hc q] at h
    exact ⟨q, Value.int.inj (Option.some.inj h)⟩
  · simp [Term.eval, ht, hc, q] at h
theorem own_tabled (cl : Cell) (h0 : atv cl 0 = 0) (h1 : atv cl 1 = 0) (h2 : atv cl 2 = 0) (h3 : atv cl 3 = 0) (h4 : atv cl 4 = 0) (h5 : atv cl 5 = 0) (h6 : atv cl 6 = 0) (h7 : atv cl 7 = 0) (h8 : atv cl 8 = 0) (h9 : atv cl 9 = 0) (h10 : atv cl 10 = 1) (h11 : atv cl 11 = 0) (h12 : atv cl 12 = 0) (h13 : atv cl 13 = 1) (h14 : atv cl 14 = 0) (h15 : atv cl 15 = 0) (h16 : atv cl 16 = 0) (h17 : atv cl 17 = 0) (h18 : atv cl 18 = 0) (h19 : atv cl 19 = 0) (h20 : atv cl 20 = 0) (h21 : atv cl 21 = 0) (h22 : atv cl 22 = 0) (h23 : atv cl 23 = 0) (h24 : atv cl 24 = 0) (h25 : atv cl 25 = 0) (h26 : atv cl 26 = 0) (h27 : atv cl 27 = 0) (h28 : atv cl 28 = 0) (h29 : atv cl 29 = 0) (h30 : atv cl 30 = 0) (h31 : atv cl 31 = 0) (h32 : atv cl 32 = 1) (h33 : atv cl 33 = 1) (h34 : atv cl 34 = 0) (h35 : atv cl 35 = 1) (h36 : atv cl 36 = 1) (h37 : atv cl 37 = 1) (h38 : atv cl 38 = 0) (h39 : atv cl 39 = 1) (h40 : atv cl 40 = 1) (h41 : atv cl 41 = 1) (h42 : atv cl 42 = 1) (h43 : atv cl 43 = 1) (h44 : atv cl 44 = 1) (h45 : atv cl 45 = 1) (h46 : atv cl 46 = 1) (h47 : atv cl 47 = 1) (h48 : atv cl 48 = 1) (h49 : atv cl 49 = 1) (h50 : atv cl 50 = 1) (h51 : atv cl 51 = 1) (h52 : atv cl 52 = 1) (h53 : atv cl 53 = 1) (h54 : atv cl 54 = 1) (h55 : atv cl 55 = 1) (h56 : atv cl 56 = 1) (h57 : atv cl 57 = 1) (h58 : atv cl 58 = 1) (h59 : atv cl 59 = 1) (h60 : atv cl 60 = 0) (h61 : atv cl 61 = 1) (h62 : atv cl 62 = 0) (h63 : atv cl 63 = 1) (h64 : atv cl 64 = 1) (h65 : atv cl 65 = 1) (h66 : atv cl 66 = 1) (h67 : atv cl 67 = 1) (h68 : atv cl 68 = 1) (h69 : atv cl 69 = 1) (h70 : atv cl 70 = 1) (h71 : atv cl 71 = 1) (h72 : atv cl 72 = 1) (h73 : atv cl 73 = 1) (h74 : atv cl 74 = 1) (h75 : atv cl 75 = 1) (h76 : atv cl 76 = 1) (h77 : atv cl 77 = 1) (h78 : atv cl 78 = 1) (h79 : atv cl 79 = 1) (h80 : atv cl 80 = 1) (h81 : atv cl 81 = 1) (h82 : atv cl 82 = 1) (h83 : atv cl 83 = 1) (h84 : atv cl 84 = 1) (h85 : atv cl 85 = 1) (h86 : atv cl 86 = 1) (h87 : atv cl 87 = 1) (h88 : atv cl 88 = 1) (h89 : atv cl 89 = 1) (h90 : atv cl 90 = 1) (h91 : atv cl 91 = 0) (h92 : atv cl 92 = 0) (h93 : atv cl 93 = 0) (h94 : atv cl 94 = 0) (h95 : atv cl 95 = 1) (h96 : atv cl 96 = 0) (h97 : atv cl 97 = 1) (h98 : atv cl 98 = 1) (h99 : atv cl 99 = 1) (h100 : atv cl 100 = 1) (h101 : atv cl 101 = 1) (h102 : atv cl 102 = 1) (h103 : atv cl 103 = 1) (h104 : atv cl 104 = 1) (h105 : atv cl 105 = 1) (h106 : atv cl 106 = 1) (h107 : atv cl 107 = 1) (h108 : atv cl 108 = 1) (h109 : atv cl 109 = 1) (h110 : atv cl 110 = 1) (h111 : atv cl 111 = 1) (h112 : atv cl 112 = 1) (h113 : atv cl 113 = 1) (h114 : atv cl 114 = 1) (h115 : atv cl 115 = 1) (h116 : atv cl 116 = 1) (h117 : atv cl 117 = 1) (h118 : atv cl 118 = 1) (h119 : atv cl 119 = 1) (h120 : atv cl 120 = 1) (h121 : atv cl 121 = 1) (h122 : atv cl 122 = 1) (h123 : atv cl 123 = 0) (h124 : atv cl 124 = 0) (h125 : atv cl 125 = 0) (h126 : atv cl 126 = 0) (h127 : atv cl 127 = 0) : own_Tabled cl
  | 0, _ => h0
  | 1, _ => h1
  | 2, _ => h2
  | 3, _ => h3
  | 4, _ => h4
  | 5, _ => h5
  | 6, _ => h6
  | 7, _ => h7
  | 8, _ => h8
  | 9, _ => h9
  | 10, _ => h10
  | 11, _ => h11
  | 12, _ => h12
  | 13, _ => h13
  | 14, _ => h14
  | 15, _ => h15
  | 16, _ => h16
  | 17, _ => h17
  | 18, _ => h18
  | 19, _ => h19
  | 20, _ => h20
  | 21, _ => h21
  | 22, _ => h22
  | 23, _ => h23
  | 24, _ => h24
  | 25, _ => h25
  | 26, _ => h26
  | 27, _ => h27
  | 28, _ => h28
  | 29, _ => h29
  | 30, _ => h30
  | 31, _ => h31
  | 32, _ => h32
  | 33, _ => h33
  | 34, _ => h34
  | 35, _ => h35
  | 36, _ => h36
  | 37, _ => h37
  | 38, _ => h38
  | 39, _ => h39
  | 40, _ => h40
  | 41, _ => h41
  | 42, _ => h42
  | 43, _ => h43
  | 44, _ => h44
  | 45, _ => h45
  | 46, _ => h46
  | 47, _ => h47
  | 48, _ => h48
  | 49, _ => h49
  | 50, _ => h50
  | 51, _ => h51
  | 52, _ => h52
  | 53, _ => h53
  | 54, _ => h54
  | 55, _ => h55
  | 56, _ => h56
  | 57, _ => h57
  | 58, _ => h58
  | 59, _ => h59
  | 60, _ => h60
  | 61, _ => h61
  | 62, _ => h62
  | 63, _ => h63
  | 64, _ => h64
  | 65, _ => h65
  | 66, _ => h66
  | 67, _ => h67
  | 68, _ => h68
  | 69, _ => h69
  | 70, _ => h70
  | 71, _ => h71
  | 72, _ => h72
  | 73, _ => h73
  | 74, _ => h74
  | 75, _ => h75
  | 76, _ => h76
  | 77, _ => h77
  | 78, _ => h78
  | 79, _ => h79
  | 80, _ => h80
  | 81, _ => h81
  | 82, _ => h82
  | 83, _ => h83
  | 84, _ => h84
  | 85, _ => h85
  | 86, _ => h86
  | 87, _ => h87
  | 88, _ => h88
  | 89, _ => h89
  | 90, _ => h90
  | 91, _ => h91
  | 92, _ => h92
  | 93, _ => h93
  | 94, _ => h94
  | 95, _ => h95
  | 96, _ => h96
  | 97, _ => h97
  | 98, _ => h98
  | 99, _ => h99
  | 100, _ => h100
  | 101, _ => h101
  | 102, _ => h102
  | 103, _ => h103
  | 104, _ => h104
  | 105, _ => h105
  | 106, _ => h106
  | 107, _ => h107
  | 108, _ => h108
  | 109, _ => h109
  | 110, _ => h110
  | 111, _ => h111
  | 112, _ => h112
  | 113, _ => h113
  | 114, _ => h114
  | 115, _ => h115
  | 116, _ => h116
  | 117, _ => h117
  | 118, _ => h118
  | 119, _ => h119
  | 120, _ => h120
  | 121, _ => h121
  | 122, _ => h122
  | 123, _ => h123
  | 124, _ => h124
  | 125, _ => h125
  | 126, _ => h126
  | 127, _ => h127
  | n + 128, h => absurd h (by omega)
set_option maxRecDepth 65536 in
set_option maxHeartbeats 40000000 in
theorem comes_1 {Post : Tables → Env → Array Value → State → Outcome → State → Prop} (hpost : ∀ tb e args s v u, (limb_1_1.after args s (.returned v) u = true ∧ limb_1_2.after args s (.returned v) u = true ∧ True) → FrameEnd s (.returned v) u (Jvm.fieldLocs frame_1_writes args s ++ Jvm.arrayLocs frame_1_arrays args s ++ Jvm.staticLocs frame_1_statics s) 0 0 → Post tb e args s (.returned v) u) :
    ArmFor flags0 classFile x code maxLocals ret World_1 tables_1 room_1 Calls_1 rest_1 Pre_1 Post := by
  intro l hfl _ _ p e ha hc hk s m args below hf hA hF happ hP
  obtain ⟨hcalls, hrest, hpre⟩ := hP
  obtain ⟨-, -, -, hnamed, -, -, -, hat⟩ := (Spec.applies_iff hf).mp happ
  obtain ⟨hg, hn⟩ := and_e (Cond.before_iff.mp (show (Jvm.Cond.and given_1 narrow_1).before args s = true from hpre))
  obtain ⟨gq1, gq2⟩ := and_e hg
  obtain ⟨w0, rfl⟩ : ∃ w0 : Value, args = #[w0] := by
    have hs : args.size = 1 := by simpa [Cond.value, given_1] using gq1
    obtain ⟨L⟩ := args
    match L, hs with
    | [w0], _ => exact ⟨w0, rfl⟩
  have hw := fun d (hd : d ∈ tables_1) => atoms_spec (ws := Jvm.Cond.code x code maxLocals ret :: tables_1) hat d (List.mem_cons_of_mem _ hd)
  have hfit : Fit s := fun {y c} hc i hi => by
    obtain ⟨ha, rfl⟩ := Array.getElem?_eq_some_iff.mp hc
    have q := List.all_eq_true.mp ((Array.all_eq_true_iff_forall_mem.mp hF) _ (Array.getElem_mem ha)) i (List.mem_range.mpr hi)
    simpa [Array.getElem?_eq_getElem hi] using q
  obtain ⟨i0, ei0⟩ := is_v gq2
  obtain rfl : w0 = (.int i0) := Option.some.inj ei0
  obtain ⟨nq1, nr1⟩ := and_e hn
  obtain ⟨nq2, nr2⟩ := and_e nr1
  obtain ⟨nq3, nr3⟩ := and_e nr2
  obtain ⟨nq4, nr4⟩ := and_e nr3
  obtain ⟨nq5, nr5⟩ := and_e nr4
  obtain ⟨nq6, nr6⟩ := and_e nr5
  obtain ⟨nq7, nr7⟩ := and_e nr6
  obtain ⟨nq8, nr8⟩ := and_e nr7
  obtain ⟨nq9, nr9⟩ := and_e nr8
  obtain ⟨nq10, nr10⟩ := and_e nr9
  obtain ⟨nq11, nr11⟩ := and_e nr10
  obtain ⟨nq12, nr12⟩ := and_e nr11
  obtain ⟨nq13, nr13⟩ := and_e nr12
  obtain ⟨nq14, nr14⟩ := and_e nr13
  obtain ⟨nq15, nr15⟩ := and_e nr14
  obtain ⟨nq16, nr16⟩ := and_e nr15
  obtain ⟨nq17, nr17⟩ := and_e nr16
  obtain ⟨nq18, nr18⟩ := and_e nr17
  obtain ⟨nq19, nr19⟩ := and_e nr18
  obtain ⟨nq20, nr20⟩ := and_e nr19
  obtain ⟨nq21, nr21⟩ := and_e nr20
  obtain ⟨nq22, nr22⟩ := and_e nr21
  obtain ⟨nq23, nr23⟩ := and_e nr22
  obtain ⟨nq24, nr24⟩ := and_e nr23
  obtain ⟨w1, hw1⟩ := arr_v nq1
  have ht : ∀ idx, (Jvm.Term.static "com/example/fpi_to_urn/fpitourn/PubidChars" "TABLE" "[Z").eval #[(.int i0)] s none idx s = some (.ref w1) := fun idx => hw1
  have S1 : Sta s s.heap "com/example/fpi_to_urn/fpitourn/PubidChars" "TABLE" "[Z" (.ref w1) := Sta.start hw1 (Or.inr ⟨(hw _ (List.mem_of_getElem? (i := 2) rfl)), (hw _ (List.mem_of_getElem? (i := 5) rfl))⟩)
  obtain ⟨cl, A1⟩ := Arr.start hw1 nq1
  have hcell := A1.1
  have harr := A1.fin (Vm.Alike.refl _)
  have hlen := own_eqInt nq2
  obtain ⟨hq31, hsz0⟩ : cl.slots.size < 2 ^ 31 ∧ cl.slots.size.toInt32 = (128 : Int32) := own_len hw1 harr hlen
  have TB := Tab.start hfit A1 (Or.inr (Or.inl rfl)) hq31 hsz0 (by decide)
  have hsz : cl.slots.size = (128 : Int32).toNatClampNeg := TB.2.1
  have hT : own_Tabled cl := own_tabled cl (own_in ht hcell 0 (by decide) (own_or (Cond.all_elim (ht []) harr nq3 (0 : Int32).toNatClampNeg (by rw [hsz]; decide)) (by simp only [Cond.value, idx_at (by decide : ¬ (0 : Int32) < 0)]; rfl))) (own_in ht hcell 1 (by decide) (own_or (Cond.all_elim (ht []) harr nq3 (1 : Int32).toNatClampNeg (by rw [hsz]; decide)) (by simp only [Cond.value, idx_at (by decide : ¬ (1 : Int32) < 0)]; rfl))) (own_in ht hcell 2 (by decide) (own_or (Cond.all_elim (ht []) harr nq3 (2 : Int32).toNatClampNeg (by rw [hsz]; decide)) (by simp only [Cond.value, idx_at (by decide : ¬ (2 : Int32) < 0)]; rfl))) (own_in ht hcell 3 (by decide) (own_or (Cond.all_elim (ht []) harr nq3 (3 : Int32).toNatClampNeg (by rw [hsz]; decide)) (by simp only [Cond.value, idx_at (by decide : ¬ (3 : Int32) < 0)]; rfl))) (own_in ht hcell 4 (by decide) (own_or (Cond.all_elim (ht []) harr nq3 (4 : Int32).toNatClampNeg (by rw [hsz]; decide)) (by simp only [Cond.value, idx_at (by decide : ¬ (4 : Int32) < 0)]; rfl))) (own_in ht hcell 5 (by decide) (own_or (Cond.all_elim (ht []) harr nq3 (5 : Int32).toNatClampNeg (by rw [hsz]; decide)) (by simp only [Cond.value, idx_at (by decide : ¬ (5 : Int32) < 0)]; rfl))) (own_in ht hcell 6 (by decide) (own_or (Cond.all_elim (ht []) harr nq3 (6 : Int32).toNatClampNeg (by rw [hsz]; decide)) (by simp only [Cond.value, idx_at (by decide : ¬ (6 : Int32) < 0)]; rfl))) (own_in ht hcell 7 (by decide) (own_or (Cond.all_elim (ht []) harr nq3 (7 : Int32).toNatClampNeg (by rw [hsz]; decide)) (by simp only [Cond.value, idx_at (by decide : ¬ (7 : Int32) < 0)]; rfl))) (own_in ht hcell 8 (by decide) (own_or (Cond.all_elim (ht []) harr nq3 (8 : Int32).toNatClampNeg (by rw [hsz]; decide)) (by simp only [Cond.value, idx_at (by decide : ¬ (8 : Int32) < 0)]; rfl))) (own_in ht hcell 9 (by decide) (own_or (Cond.all_elim (ht []) harr nq3 (9 : Int32).toNatClampNeg (by rw [hsz]; decide)) (by simp only [Cond.value, idx_at (by decide : ¬ (9 : Int32) < 0)]; rfl))) (own_at ht hcell nq4) (own_at ht hcell nq5) (own_at ht hcell nq6) (own_at ht hcell nq7) (own_in ht hcell 14 (by decide) (own_or (own_or (Cond.all_elim (ht []) harr nq8 (14 : Int32).toNatClampNeg (by rw [hsz]; decide)) (by simp only [Cond.value, idx_at (by decide : ¬ (14 : Int32) < 0)]; rfl)) (by simp only [Cond.value, idx_at (by decide : ¬ (14 : Int32) < 0)]; rfl))) (own_in ht hcell 15 (by decide) (own_or (own_or (Cond.all_elim (ht []) harr nq8 (15 : Int32).toNatClampNeg (by rw [hsz]; decide)) (by simp only [Cond.value, idx_at (by decide : ¬ (15 : Int32) < 0)]; rfl)) (by simp only [Cond.value, idx_at (by decide : ¬ (15 : Int32) < 0)]; rfl))) (own_in ht hcell 16 (by decide) (own_or (own_or (Cond.all_elim (ht []) harr nq8 (16 : Int32).toNatClampNeg (by rw [hsz]; decide)) (by simp only [Cond.value, idx_at (by decide : ¬ (16 : Int32) < 0)]; rfl)) (by simp only [Cond.value, idx_at (by decide : ¬ (16 : Int32) < 0)]; rfl))) (own_in ht hcell 17 (by decide) (own_or (own_or (Cond.all_elim (ht []) harr nq8 (17 : Int32).toNatClampNeg (by rw [hsz]; decide)) (by simp only [Cond.value, idx_at (by decide : ¬ (17 : Int32) < 0)]; rfl)) (by simp only [Cond.value, idx_at (by decide : ¬ (17 : Int32) < 0)]; rfl))) (own_in ht hcell 18 (by decide) (own_or (own_or (Cond.all_elim (ht []) harr nq8 (18 : Int32).toNatClampNeg (by rw [hsz]; decide)) (by simp only [Cond.value, idx_at (by decide : ¬ (18 : Int32) < 0)]; rfl)) (by simp only [Cond.value, idx_at (by decide : ¬ (18 : Int32) < 0)]; rfl))) (own_in ht hcell 19 (by decide) (own_or (own_or (Cond.all_elim (ht []) harr nq8 (19 : Int32).toNatClampNeg (by rw [hsz]; decide)) (by simp only [Cond.value, idx_at (by decide : ¬ (19 : Int32) < 0)]; rfl)) (by simp only [Cond.value, idx_at (by decide : ¬ (19 : Int32) < 0)]; rfl))) (own_in ht hcell 20 (by decide) (own_or (own_or (Cond.all_elim (ht []) harr nq8 (20 : Int32).toNatClampNeg (by rw [hsz]; decide)) (by simp only [Cond.value, idx_at (by decide : ¬ (20 : Int32) < 0)]; rfl)) (by simp only [Cond.value, idx_at (by decide : ¬ (20 : Int32) < 0)]; rfl))) (own_in ht hcell 21 (by decide) (own_or (own_or (Cond.all_elim (ht []) harr nq8 (21 : Int32).toNatClampNeg (by rw [hsz]; decide)) (by simp only [Cond.value, idx_at (by decide : ¬ (21 : Int32) < 0)]; rfl)) (by simp only [Cond.value, idx_at (by decide : ¬ (21 : Int32) < 0)]; rfl))) (own_in ht hcell 22 (by decide) (own_or (own_or (Cond.all_elim (ht []) harr nq8 (22 : Int32).toNatClampNeg (by rw [hsz]; decide)) (by simp only [Cond.value, idx_at (by decide : ¬ (22 : Int32) < 0)]; rfl)) (by simp only [Cond.value, idx_at (by decide : ¬ (22 : Int32) < 0)]; rfl))) (own_in ht hcell 23 (by decide) (own_or (own_or (Cond.all_elim (ht []) harr nq8 (23 : Int32).toNatClampNeg (by rw [hsz]; decide)) (by simp only [Cond.value, idx_at (by decide : ¬ (23 : Int32) < 0)]; rfl)) (by simp only [Cond.value, idx_at (by decide : ¬ (23 : Int32) < 0)]; rfl))) (own_in ht hcell 24 (by decide) (own_or (own_or (Cond.all_elim (ht []) harr nq8 (24 : Int32).toNatClampNeg (by rw [hsz]; decide)) (by simp only [Cond.value, idx_at (by decide : ¬ (24 : Int32) < 0)]; rfl)) (by simp only [Cond.value, idx_at (by decide : ¬ (24 : Int32) < 0)]; rfl))) (own_in ht hcell 25 (by decide) (own_or (own_or (Cond.all_elim (ht []) harr nq8 (25 : Int32).toNatClampNeg (by rw [hsz]; decide)) (by simp only [Cond.value, idx_at (by decide : ¬ (25 : Int32) < 0)]; rfl)) (by simp only [Cond.value, idx_at (by decide : ¬ (25 : Int32) < 0)]; rfl))) (own_in ht hcell 26 (by decide) (own_or (own_or (Cond.all_elim (ht []) harr nq8 (26 : Int32).toNatClampNeg (by rw [hsz]; decide)) (by simp only [Cond.value, idx_at (by decide : ¬ (26 : Int32) < 0)]; rfl)) (by simp only [Cond.value, idx_at (by decide : ¬ (26 : Int32) < 0)]; rfl))) (own_in ht hcell 27 (by decide) (own_or (own_or (Cond.all_elim (ht []) harr nq8 (27 : Int32).toNatClampNeg (by rw [hsz]; decide)) (by simp only [Cond.value, idx_at (by decide : ¬ (27 : Int32) < 0)]; rfl)) (by simp only [Cond.value, idx_at (by decide : ¬ (27 : Int32) < 0)]; rfl))) (own_in ht hcell 28 (by decide) (own_or (own_or (Cond.all_elim (ht []) harr nq8 (28 : Int32).toNatClampNeg (by rw [hsz]; decide)) (by simp only [Cond.value, idx_at (by decide : ¬ (28 : Int32) < 0)]; rfl)) (by simp only [Cond.value, idx_at (by decide : ¬ (28 : Int32) < 0)]; rfl))) (own_in ht hcell 29 (by decide) (own_or (own_or (Cond.all_elim (ht []) harr nq8 (29 : Int32).toNatClampNeg (by rw [hsz]; decide)) (by simp only [Cond.value, idx_at (by decide : ¬ (29 : Int32) < 0)]; rfl)) (by simp only [Cond.value, idx_at (by decide : ¬ (29 : Int32) < 0)]; rfl))) (own_in ht hcell 30 (by decide) (own_or (own_or (Cond.all_elim (ht []) harr nq8 (30 : Int32).toNatClampNeg (by rw [hsz]; decide)) (by simp only [Cond.value, idx_at (by decide : ¬ (30 : Int32) < 0)]; rfl)) (by simp only [Cond.value, idx_at (by decide : ¬ (30 : Int32) < 0)]; rfl))) (own_in ht hcell 31 (by decide) (own_or (own_or (Cond.all_elim (ht []) harr nq8 (31 : Int32).toNatClampNeg (by rw [hsz]; decide)) (by simp only [Cond.value, idx_at (by decide : ¬ (31 : Int32) < 0)]; rfl)) (by simp only [Cond.value, idx_at (by decide : ¬ (31 : Int32) < 0)]; rfl))) (own_at ht hcell nq9) (own_at ht hcell nq10) (own_at ht hcell nq11) (own_at ht hcell nq12) (own_at ht hcell nq13) (own_at ht hcell nq14) (own_at ht hcell nq15) (own_in ht hcell 39 (by decide) (own_or (own_or (Cond.all_elim (ht []) harr nq16 (39 : Int32).toNatClampNeg (by rw [hsz]; decide)) (by simp only [Cond.value, idx_at (by decide : ¬ (39 : Int32) < 0)]; rfl)) (by simp only [Cond.value, idx_at (by decide : ¬ (39 : Int32) < 0)]; rfl))) (own_in ht hcell 40 (by decide) (own_or (own_or (Cond.all_elim (ht []) harr nq16 (40 : Int32).toNatClampNeg (by rw [hsz]; decide)) (by simp only [Cond.value, idx_at (by decide : ¬ (40 : Int32) < 0)]; rfl)) (by simp only [Cond.value, idx_at (by decide : ¬ (40 : Int32) < 0)]; rfl))) (own_in ht hcell 41 (by decide) (own_or (own_or (Cond.all_elim (ht []) harr nq16 (41 : Int32).toNatClampNeg (by rw [hsz]; decide)) (by simp only [Cond.value, idx_at (by decide : ¬ (41 : Int32) < 0)]; rfl)) (by simp only [Cond.value, idx_at (by decide : ¬ (41 : Int32) < 0)]; rfl))) (own_in ht hcell 42 (by decide) (own_or (own_or (Cond.all_elim (ht []) harr nq16 (42 : Int32).toNatClampNeg (by rw [hsz]; decide)) (by simp only [Cond.value, idx_at (by decide : ¬ (42 : Int32) < 0)]; rfl)) (by simp only [Cond.value, idx_at (by decide : ¬ (42 : Int32) < 0)]; rfl))) (own_in ht hcell 43 (by decide) (own_or (own_or (Cond.all_elim (ht []) harr nq16 (43 : Int32).toNatClampNeg (by rw [hsz]; decide)) (by simp only [Cond.value, idx_at (by decide : ¬ (43 : Int32) < 0)]; rfl)) (by simp only [Cond.value, idx_at (by decide : ¬ (43 : Int32) < 0)]; rfl))) (own_in ht hcell 44 (by decide) (own_or (own_or (Cond.all_elim (ht []) harr nq16 (44 : Int32).toNatClampNeg (by rw [hsz]; decide)) (by simp only [Cond.value, idx_at (by decide : ¬ (44 : Int32) < 0)]; rfl)) (by simp only [Cond.value, idx_at (by decide : ¬ (44 : Int32) < 0)]; rfl))) (own_in ht hcell 45 (by decide) (own_or (own_or (Cond.all_elim (ht []) harr nq16 (45 : Int32).toNatClampNeg (by rw [hsz]; decide)) (by simp only [Cond.value, idx_at (by decide : ¬ (45 : Int32) < 0)]; rfl)) (by simp only [Cond.value, idx_at (by decide : ¬ (45 : Int32) < 0)]; rfl))) (own_in ht hcell 46 (by decide) (own_or (own_or (Cond.all_elim (ht []) harr nq16 (46 : Int32).toNatClampNeg (by rw [hsz]; decide)) (by simp only [Cond.value, idx_at (by decide : ¬ (46 : Int32) < 0)]; rfl)) (by simp only [Cond.value, idx_at (by decide : ¬ (46 : Int32) < 0)]; rfl))) (own_in ht hcell 47 (by decide) (own_or (own_or (Cond.all_elim (ht []) harr nq16 (47 : Int32).toNatClampNeg (by rw [hsz]; decide)) (by simp only [Cond.value, idx_at (by decide : ¬ (47 : Int32) < 0)]; rfl)) (by simp only [Cond.value, idx_at (by decide : ¬ (47 : Int32) < 0)]; rfl))) (own_in ht hcell 48 (by decide) (own_or (own_or (Cond.all_elim (ht []) harr nq16 (48 : Int32).toNatClampNeg (by rw [hsz]; decide)) (by simp only [Cond.value, idx_at (by decide : ¬ (48 : Int32) < 0)]; rfl)) (by simp only [Cond.value, idx_at (by decide : ¬ (48 : Int32) < 0)]; rfl))) (own_in ht hcell 49 (by decide) (own_or (own_or (Cond.all_elim (ht []) harr nq16 (49 : Int32).toNatClampNeg (by rw [hsz]; decide)) (by simp only [Cond.value, idx_at (by decide : ¬ (49 : Int32) < 0)]; rfl)) (by simp only [Cond.value, idx_at (by decide : ¬ (49 : Int32) < 0)]; rfl))) (own_in ht hcell 50 (by decide) (own_or (own_or (Cond.all_elim (ht []) harr nq16 (50 : Int32).toNatClampNeg (by rw [hsz]; decide)) (by simp only [Cond.value, idx_at (by decide : ¬ (50 : Int32) < 0)]; rfl)) (by simp only [Cond.value, idx_at (by decide : ¬ (50 : Int32) < 0)]; rfl))) (own_in ht hcell 51 (by decide) (own_or (own_or (Cond.all_elim (ht []) harr nq16 (51 : Int32).toNatClampNeg (by rw [hsz]; decide)) (by simp only [Cond.value, idx_at (by decide : ¬ (51 : Int32) < 0)]; rfl)) (by simp only [Cond.value, idx_at (by decide : ¬ (51 : Int32) < 0)]; rfl))) (own_in ht hcell 52 (by decide) (own_or (own_or (Cond.all_elim (ht []) harr nq16 (52 : Int32).toNatClampNeg (by rw [hsz]; decide)) (by simp only [Cond.value, idx_at (by decide : ¬ (52 : Int32) < 0)]; rfl)) (by simp only [Cond.value, idx_at (by decide : ¬ (52 : Int32) < 0)]; rfl))) (own_in ht hcell 53 (by decide) (own_or (own_or (Cond.all_elim (ht []) harr nq16 (53 : Int32).toNatClampNeg (by rw [hsz]; decide)) (by simp only [Cond.value, idx_at (by decide : ¬ (53 : Int32) < 0)]; rfl)) (by simp only [Cond.value, idx_at (by decide : ¬ (53 : Int32) < 0)]; rfl))) (own_in ht hcell 54 (by decide) (own_or (own_or (Cond.all_elim (ht []) harr nq16 (54 : Int32).toNatClampNeg (by rw [hsz]; decide)) (by simp only [Cond.value, idx_at (by decide : ¬ (54 : Int32) < 0)]; rfl)) (by simp only [Cond.value, idx_at (by decide : ¬ (54 : Int32) < 0)]; rfl))) (own_in ht hcell 55 (by decide) (own_or (own_or (Cond.all_elim (ht []) harr nq16 (55 : Int32).toNatClampNeg (by rw [hsz]; decide)) (by simp only [Cond.value, idx_at (by decide : ¬ (55 : Int32) < 0)]; rfl)) (by simp only [Cond.value, idx_at (by decide : ¬ (55 : Int32) < 0)]; rfl))) (own_in ht hcell 56 (by decide) (own_or (own_or (Cond.all_elim (ht []) harr nq16 (56 : Int32).toNatClampNeg (by rw [hsz]; decide)) (by simp only [Cond.value, idx_at (by decide : ¬ (56 : Int32) < 0)]; rfl)) (by simp only [Cond.value, idx_at (by decide : ¬ (56 : Int32) < 0)]; rfl))) (own_in ht hcell 57 (by decide) (own_or (own_or (Cond.all_elim (ht []) harr nq16 (57 : Int32).toNatClampNeg (by rw [hsz]; decide)) (by simp only [Cond.value, idx_at (by decide : ¬ (57 : Int32) < 0)]; rfl)) (by simp only [Cond.value, idx_at (by decide : ¬ (57 : Int32) < 0)]; rfl))) (own_in ht hcell 58 (by decide) (own_or (own_or (Cond.all_elim (ht []) harr nq16 (58 : Int32).toNatClampNeg (by rw [hsz]; decide)) (by simp only [Cond.value, idx_at (by decide : ¬ (58 : Int32) < 0)]; rfl)) (by simp only [Cond.value, idx_at (by decide : ¬ (58 : Int32) < 0)]; rfl))) (own_in ht hcell 59 (by decide) (own_or (own_or (Cond.all_elim (ht []) harr nq16 (59 : Int32).toNatClampNeg (by rw [hsz]; decide)) (by simp only [Cond.value, idx_at (by decide : ¬ (59 : Int32) < 0)]; rfl)) (by simp only [Cond.value, idx_at (by decide : ¬ (59 : Int32) < 0)]; rfl))) (own_at ht hcell nq17) (own_at ht hcell nq18) (own_at ht hcell nq19) (own_in ht hcell 63 (by decide) (own_or (own_or (Cond.all_elim (ht []) harr nq20 (63 : Int32).toNatClampNeg (by rw [hsz]; decide)) (by simp only [Cond.value, idx_at (by decide : ¬ (63 : Int32) < 0)]; rfl)) (by simp only [Cond.value, idx_at (by decide : ¬ (63 : Int32) < 0)]; rfl))) (own_in ht hcell 64 (by decide) (own_or (own_or (Cond.all_elim (ht []) harr nq20 (64 : Int32).toNatClampNeg (by rw [hsz]; decide)) (by simp only [Cond.value, idx_at (by decide : ¬ (64 : Int32) < 0)]; rfl)) (by simp only [Cond.value, idx_at (by decide : ¬ (64 : Int32) < 0)]; rfl))) (own_in ht hcell 65 (by decide) (own_or (own_or (Cond.all_elim (ht []) harr nq20 (65 : Int32).toNatClampNeg (by rw [hsz]; decide)) (by simp only [Cond.value, idx_at (by decide : ¬ (65 : Int32) < 0)]; rfl)) (by simp only [Cond.value, idx_at (by decide : ¬ (65 : Int32) < 0)]; rfl))) (own_in ht hcell 66 (by decide) (own_or (own_or (Cond.all_elim (ht []) harr nq20 (66 : Int32).toNatClampNeg (by rw [hsz]; decide)) (by simp only [Cond.value, idx_at (by decide : ¬ (66 : Int32) < 0)]; rfl)) (by simp only [Cond.value, idx_at (by decide : ¬ (66 : Int32) < 0)]; rfl))) (own_in ht hcell 67 (by decide) (own_or (own_or (Cond.all_elim (ht []) harr nq20 (67 : Int32).toNatClampNeg (by rw [hsz]; decide)) (by simp only [Cond.value, idx_at (by decide : ¬ (67 : Int32) < 0)]; rfl)) (by simp only [Cond.value, idx_at (by decide : ¬ (67 : Int32) < 0)]; rfl))) (own_in ht hcell 68 (by decide) (own_or (own_or (Cond.all_elim (ht []) harr nq20 (68 : Int32).toNatClampNeg (by rw [hsz]; decide)) (by simp only [Cond.value, idx_at (by decide : ¬ (68 : Int32) < 0)]; rfl)) (by simp only [Cond.value, idx_at (by decide : ¬ (68 : Int32) < 0)]; rfl))) (own_in ht hcell 69 (by decide) (own_or (own_or (Cond.all_elim (ht []) harr nq20 (69 : Int32).toNatClampNeg (by rw [hsz]; decide)) (by simp only [Cond.value, idx_at (by decide : ¬ (69 : Int32) < 0)]; rfl)) (by simp only [Cond.value, idx_at (by decide : ¬ (69 : Int32) < 0)]; rfl))) (own_in ht hcell 70 (by decide) (own_or (own_or (Cond.all_elim (ht []) harr nq20 (70 : Int32).toNatClampNeg (by rw [hsz]; decide)) (by simp only [Cond.value, idx_at (by decide : ¬ (70 : Int32) < 0)]; rfl)) (by simp only [Cond.value, idx_at (by decide : ¬ (70 : Int32) < 0)]; rfl))) (own_in ht hcell 71 (by decide) (own_or (own_or (Cond.all_elim (ht []) harr nq20 (71 : Int32).toNatClampNeg (by rw [hsz]; decide)) (by simp only [Cond.value, idx_at (by decide : ¬ (71 : Int32) < 0)]; rfl)) (by simp only [Cond.value, idx_at (by decide : ¬ (71 : Int32) < 0)]; rfl))) (own_in ht hcell 72 (by decide) (own_or (own_or (Cond.all_elim (ht []) harr nq20 (72 : Int32).toNatClampNeg (by rw [hsz]; decide)) (by simp only [Cond.value, idx_at (by decide : ¬ (72 : Int32) < 0)]; rfl)) (by simp only [Cond.value, idx_at (by decide : ¬ (72 : Int32) < 0)]; rfl))) (own_in ht hcell 73 (by decide) (own_or (own_or (Cond.all_elim (ht []) harr nq20 (73 : Int32).toNatClampNeg (by rw [hsz]; decide)) (by simp only [Cond.value, idx_at (by decide : ¬ (73 : Int32) < 0)]; rfl)) (by simp only [Cond.value, idx_at (by decide : ¬ (73 : Int32) < 0)]; rfl))) (own_in ht hcell 74 (by decide) (own_or (own_or (Cond.all_elim (ht []) harr nq20 (74 : Int32).toNatClampNeg (by rw [hsz]; decide)) (by simp only [Cond.value, idx_at (by decide : ¬ (74 : Int32) < 0)]; rfl)) (by simp only [Cond.value, idx_at (by decide : ¬ (74 : Int32) < 0)]; rfl))) (own_in ht hcell 75 (by decide) (own_or (own_or (Cond.all_elim (ht []) harr nq20 (75 : Int32).toNatClampNeg (by rw [hsz]; decide)) (by simp only [Cond.value, idx_at (by decide : ¬ (75 : Int32) < 0)]; rfl)) (by simp only [Cond.value, idx_at (by decide : ¬ (75 : Int32) < 0)]; rfl))) (own_in ht hcell 76 (by decide) (own_or (own_or (Cond.all_elim (ht []) harr nq20 (76 : Int32).toNatClampNeg (by rw [hsz]; decide)) (by simp only [Cond.value, idx_at (by decide : ¬ (76 : Int32) < 0)]; rfl)) (by simp only [Cond.value, idx_at (by decide : ¬ (76 : Int32) < 0)]; rfl))) (own_in ht hcell 77 (by decide) (own_or (own_or (Cond.all_elim (ht []) harr nq20 (77 : Int32).toNatClampNeg (by rw [hsz]; decide)) (by simp only [Cond.value, idx_at (by decide : ¬ (77 : Int32) < 0)]; rfl)) (by simp only [Cond.value, idx_at (by decide : ¬ (77 : Int32) < 0)]; rfl))) (own_in ht hcell 78 (by decide) (own_or (own_or (Cond.all_elim (ht []) harr nq20 (78 : Int32).toNatClampNeg (by rw [hsz]; decide)) (by simp only [Cond.value, idx_at (by decide : ¬ (78 : Int32) < 0)]; rfl)) (by simp only [Cond.value, idx_at (by decide : ¬ (78 : Int32) < 0)]; rfl))) (own_in ht hcell 79 (by decide) (own_or (own_or (Cond.all_elim (ht []) harr nq20 (79 : Int32).toNatClampNeg (by rw [hsz]; decide)) (by simp only [Cond.value, idx_at (by decide : ¬ (79 : Int32) < 0)]; rfl)) (by simp only [Cond.value, idx_at (by decide : ¬ (79 : Int32) < 0)]; rfl))) (own_in ht hcell 80 (by decide) (own_or (own_or (Cond.all_elim (ht []) harr nq20 (80 : Int32).toNatClampNeg (by rw [hsz]; decide)) (by simp only [Cond.value, idx_at (by decide : ¬ (80 : Int32) < 0)]; rfl)) (by simp only [Cond.value, idx_at (by decide : ¬ (80 : Int32) < 0)]; rfl))) (own_in ht hcell 81 (by decide) (own_or (own_or (Cond.all_elim (ht []) harr nq20 (81 : Int32).toNatClampNeg (by rw [hsz]; decide)) (by simp only [Cond.value, idx_at (by decide : ¬ (81 : Int32) < 0)]; rfl)) (by simp only [Cond.value, idx_at (by decide : ¬ (81 : Int32) < 0)]; rfl))) (own_in ht hcell 82 (by decide) (own_or (own_or (Cond.all_elim (ht []) harr nq20 (82 : Int32).toNatClampNeg (by rw [hsz]; decide)) (by simp only [Cond.value, idx_at (by decide : ¬ (82 : Int32) < 0)]; rfl)) (by simp only [Cond.value, idx_at (by decide : ¬ (82 : Int32) < 0)]; rfl))) (own_in ht hcell 83 (by decide) (own_or (own_or (Cond.all_elim (ht []) harr nq20 (83 : Int32).toNatClampNeg (by rw [hsz]; decide)) (by simp only [Cond.value, idx_at (by decide : ¬ (83 : Int32) < 0)]; rfl)) (by simp only [Cond.value, idx_at (by decide : ¬ (83 : Int32) < 0)]; rfl))) (own_in ht hcell 84 (by decide) (own_or (own_or (Cond.all_elim (ht []) harr nq20 (84 : Int32).toNatClampNeg (by rw [hsz]; decide)) (by simp only [Cond.value, idx_at (by decide : ¬ (84 : Int32) < 0)]; rfl)) (by simp only [Cond.value, idx_at (by decide : ¬ (84 : Int32) < 0)]; rfl))) (own_in ht hcell 85 (by decide) (own_or (own_or (Cond.all_elim (ht []) harr nq20 (85 : Int32).toNatClampNeg (by rw [hsz]; decide)) (by simp only [Cond.value, idx_at (by decide : ¬ (85 : Int32) < 0)]; rfl)) (by simp only [Cond.value, idx_at (by decide : ¬ (85 : Int32) < 0)]; rfl))) (own_in ht hcell 86 (by decide) (own_or (own_or (Cond.all_elim (ht []) harr nq20 (86 : Int32).toNatClampNeg (by rw [hsz]; decide)) (by simp only [Cond.value, idx_at (by decide : ¬ (86 : Int32) < 0)]; rfl)) (by simp only [Cond.value, idx_at (by decide : ¬ (86 : Int32) < 0)]; rfl))) (own_in ht hcell 87 (by decide) (own_or (own_or (Cond.all_elim (ht []) harr nq20 (87 : Int32).toNatClampNeg (by rw [hsz]; decide)) (by simp only [Cond.value, idx_at (by decide : ¬ (87 : Int32) < 0)]; rfl)) (by simp only [Cond.value, idx_at (by decide : ¬ (87 : Int32) < 0)]; rfl))) (own_in ht hcell 88 (by decide) (own_or (own_or (Cond.all_elim (ht []) harr nq20 (88 : Int32).toNatClampNeg (by rw [hsz]; decide)) (by simp only [Cond.value, idx_at (by decide : ¬ (88 : Int32) < 0)]; rfl)) (by simp only [Cond.value, idx_at (by decide : ¬ (88 : Int32) < 0)]; rfl))) (own_in ht hcell 89 (by decide) (own_or (own_or (Cond.all_elim (ht []) harr nq20 (89 : Int32).toNatClampNeg (by rw [hsz]; decide)) (by simp only [Cond.value, idx_at (by decide : ¬ (89 : Int32) < 0)]; rfl)) (by simp only [Cond.value, idx_at (by decide : ¬ (89 : Int32) < 0)]; rfl))) (own_in ht hcell 90 (by decide) (own_or (own_or (Cond.all_elim (ht []) harr nq20 (90 : Int32).toNatClampNeg (by rw [hsz]; decide)) (by simp only [Cond.value, idx_at (by decide : ¬ (90 : Int32) < 0)]; rfl)) (by simp only [Cond.value, idx_at (by decide : ¬ (90 : Int32) < 0)]; rfl))) (own_in ht hcell 91 (by decide) (own_or (own_or (Cond.all_elim (ht []) harr nq21 (91 : Int32).toNatClampNeg (by rw [hsz]; decide)) (by simp only [Cond.value, idx_at (by decide : ¬ (91 : Int32) < 0)]; rfl)) (by simp only [Cond.value, idx_at (by decide : ¬ (91 : Int32) < 0)]; rfl))) (own_in ht hcell 92 (by decide) (own_or (own_or (Cond.all_elim (ht []) harr nq21 (92 : Int32).toNatClampNeg (by rw [hsz]; decide)) (by simp only [Cond.value, idx_at (by decide : ¬ (92 : Int32) < 0)]; rfl)) (by simp only [Cond.value, idx_at (by decide : ¬ (92 : Int32) < 0)]; rfl))) (own_in ht hcell 93 (by decide) (own_or (own_or (Cond.all_elim (ht []) harr nq21 (93 : Int32).toNatClampNeg (by rw [hsz]; decide)) (by simp only [Cond.value, idx_at (by decide : ¬ (93 : Int32) < 0)]; rfl)) (by simp only [Cond.value, idx_at (by decide : ¬ (93 : Int32) < 0)]; rfl))) (own_in ht hcell 94 (by decide) (own_or (own_or (Cond.all_elim (ht []) harr nq21 (94 : Int32).toNatClampNeg (by rw [hsz]; decide)) (by simp only [Cond.value, idx_at (by decide : ¬ (94 : Int32) < 0)]; rfl)) (by simp only [Cond.value, idx_at (by decide : ¬ (94 : Int32) < 0)]; rfl))) (own_at ht hcell nq22) (own_at ht hcell nq23) (own_in ht hcell 97 (by decide) (own_or (own_or (Cond.all_elim (ht []) harr nq24 (97 : Int32).toNatClampNeg (by rw [hsz]; decide)) (by simp only [Cond.value, idx_at (by decide : ¬ (97 : Int32) < 0)]; rfl)) (by simp only [Cond.value, idx_at (by decide : ¬ (97 : Int32) < 0)]; rfl))) (own_in ht hcell 98 (by decide) (own_or (own_or (Cond.all_elim (ht []) harr nq24 (98 : Int32).toNatClampNeg (by rw [hsz]; decide)) (by simp only [Cond.value, idx_at (by decide : ¬ (98 : Int32) < 0)]; rfl)) (by simp only [Cond.value, idx_at (by decide : ¬ (98 : Int32) < 0)]; rfl))) (own_in ht hcell 99 (by decide) (own_or (own_or (Cond.all_elim (ht []) harr nq24 (99 : Int32).toNatClampNeg (by rw [hsz]; decide)) (by simp only [Cond.value, idx_at (by decide : ¬ (99 : Int32) < 0)]; rfl)) (by simp only [Cond.value, idx_at (by decide : ¬ (99 : Int32) < 0)]; rfl))) (own_in ht hcell 100 (by decide) (own_or (own_or (Cond.all_elim (ht []) harr nq24 (100 : Int32).toNatClampNeg (by rw [hsz]; decide)) (by simp only [Cond.value, idx_at (by decide : ¬ (100 : Int32) < 0)]; rfl)) (by simp only [Cond.value, idx_at (by decide : ¬ (100 : Int32) < 0)]; rfl))) (own_in ht hcell 101 (by decide) (own_or (own_or (Cond.all_elim (ht []) harr nq24 (101 : Int32).toNatClampNeg (by rw [hsz]; decide)) (by simp only [Cond.value, idx_at (by decide : ¬ (101 : Int32) < 0)]; rfl)) (by simp only [Cond.value, idx_at (by decide : ¬ (101 : Int32) < 0)]; rfl))) (own_in ht hcell 102 (by decide) (own_or (own_or (Cond.all_elim (ht []) harr nq24 (102 : Int32).toNatClampNeg (by rw [hsz]; decide)) (by simp only [Cond.value, idx_at (by decide : ¬ (102 : Int32) < 0)]; rfl)) (by simp only [Cond.value, idx_at (by decide : ¬ (102 : Int32) < 0)]; rfl))) (own_in ht hcell 103 (by decide) (own_or (own_or (Cond.all_elim (ht []) harr nq24 (103 : Int32).toNatClampNeg (by rw [hsz]; decide)) (by simp only [Cond.value, idx_at (by decide : ¬ (103 : Int32) < 0)]; rfl)) (by simp only [Cond.value, idx_at (by decide : ¬ (103 : Int32) < 0)]; rfl))) (own_in ht hcell 104 (by decide) (own_or (own_or (Cond.all_elim (ht []) harr nq24 (104 : Int32).toNatClampNeg (by rw [hsz]; decide)) (by simp only [Cond.value, idx_at (by decide : ¬ (104 : Int32) < 0)]; rfl)) (by simp only [Cond.value, idx_at (by decide : ¬ (104 : Int32) < 0)]; rfl))) (own_in ht hcell 105 (by decide) (own_or (own_or (Cond.all_elim (ht []) harr nq24 (105 : Int32).toNatClampNeg (by rw [hsz]; decide)) (by simp only [Cond.value, idx_at (by decide : ¬ (105 : Int32) < 0)]; rfl)) (by simp only [Cond.value, idx_at (by decide : ¬ (105 : Int32) < 0)]; rfl))) (own_in ht hcell 106 (by decide) (own_or (own_or (Cond.all_elim (ht []) harr nq24 (106 : Int32).toNatClampNeg (by rw [hsz]; decide)) (by simp only [Cond.value, idx_at (by decide : ¬ (106 : Int32) < 0)]; rfl)) (by simp only [Cond.value, idx_at (by decide : ¬ (106 : Int32) < 0)]; rfl))) (own_in ht hcell 107 (by decide) (own_or (own_or (Cond.all_elim (ht []) harr nq24 (107 : Int32).toNatClampNeg (by rw [hsz]; decide)) (by simp only [Cond.value, idx_at (by decide : ¬ (107 : Int32) < 0)]; rfl)) (by simp only [Cond.value, idx_at (by decide : ¬ (107 : Int32) < 0)]; rfl))) (own_in ht hcell 108 (by decide) (own_or (own_or (Cond.all_elim (ht []) harr nq24 (108 : Int32).toNatClampNeg (by rw [hsz]; decide)) (by simp only [Cond.value, idx_at (by decide : ¬ (108 : Int32) < 0)]; rfl)) (by simp only [Cond.value, idx_at (by decide : ¬ (108 : Int32) < 0)]; rfl))) (own_in ht hcell 109 (by decide) (own_or (own_or (Cond.all_elim (ht []) harr nq24 (109 : Int32).toNatClampNeg (by rw [hsz]; decide)) (by simp only [Cond.value, idx_at (by decide : ¬ (109 : Int32) < 0)]; rfl)) (by simp only [Cond.value, idx_at (by decide : ¬ (109 : Int32) < 0)]; rfl))) (own_in ht hcell 110 (by decide) (own_or (own_or (Cond.all_elim (ht []) harr nq24 (110 : Int32).toNatClampNeg (by rw [hsz]; decide)) (by simp only [Cond.value, idx_at (by decide : ¬ (110 : Int32) < 0)]; rfl)) (by simp only [Cond.value, idx_at (by decide : ¬ (110 : Int32) < 0)]; rfl))) (own_in ht hcell 111 (by decide) (own_or (own_or (Cond.all_elim (ht []) harr nq24 (111 : Int32).toNatClampNeg (by rw [hsz]; decide)) (by simp only [Cond.value, idx_at (by decide : ¬ (111 : Int32) < 0)]; rfl)) (by simp only [Cond.value, idx_at (by decide : ¬ (111 : Int32) < 0)]; rfl))) (own_in ht hcell 112 (by decide) (own_or (own_or (Cond.all_elim (ht []) harr nq24 (112 : Int32).toNatClampNeg (by rw [hsz]; decide)) (by simp only [Cond.value, idx_at (by decide : ¬ (112 : Int32) < 0)]; rfl)) (by simp only [Cond.value, idx_at (by decide : ¬ (112 : Int32) < 0)]; rfl))) (own_in ht hcell 113 (by decide) (own_or (own_or (Cond.all_elim (ht []) harr nq24 (113 : Int32).toNatClampNeg (by rw [hsz]; decide)) (by simp only [Cond.value, idx_at (by decide : ¬ (113 : Int32) < 0)]; rfl)) (by simp only [Cond.value, idx_at (by decide : ¬ (113 : Int32) < 0)]; rfl))) (own_in ht hcell 114 (by decide) (own_or (own_or (Cond.all_elim (ht []) harr nq24 (114 : Int32).toNatClampNeg (by rw [hsz]; decide)) (by simp only [Cond.value, idx_at (by decide : ¬ (114 : Int32) < 0)]; rfl)) (by simp only [Cond.value, idx_at (by decide : ¬ (114 : Int32) < 0)]; rfl))) (own_in ht hcell 115 (by decide) (own_or (own_or (Cond.all_elim (ht []) harr nq24 (115 : Int32).toNatClampNeg (by rw [hsz]; decide)) (by simp only [Cond.value, idx_at (by decide : ¬ (115 : Int32) < 0)]; rfl)) (by simp only [Cond.value, idx_at (by decide : ¬ (115 : Int32) < 0)]; rfl))) (own_in ht hcell 116 (by decide) (own_or (own_or (Cond.all_elim (ht []) harr nq24 (116 : Int32).toNatClampNeg (by rw [hsz]; decide)) (by simp only [Cond.value, idx_at (by decide : ¬ (116 : Int32) < 0)]; rfl)) (by simp only [Cond.value, idx_at (by decide : ¬ (116 : Int32) < 0)]; rfl))) (own_in ht hcell 117 (by decide) (own_or (own_or (Cond.all_elim (ht []) harr nq24 (117 : Int32).toNatClampNeg (by rw [hsz]; decide)) (by simp only [Cond.value, idx_at (by decide : ¬ (117 : Int32) < 0)]; rfl)) (by simp only [Cond.value, idx_at (by decide : ¬ (117 : Int32) < 0)]; rfl))) (own_in ht hcell 118 (by decide) (own_or (own_or (Cond.all_elim (ht []) harr nq24 (118 : Int32).toNatClampNeg (by rw [hsz]; decide)) (by simp only [Cond.value, idx_at (by decide : ¬ (118 : Int32) < 0)]; rfl)) (by simp only [Cond.value, idx_at (by decide : ¬ (118 : Int32) < 0)]; rfl))) (own_in ht hcell 119 (by decide) (own_or (own_or (Cond.all_elim (ht []) harr nq24 (119 : Int32).toNatClampNeg (by rw [hsz]; decide)) (by simp only [Cond.value, idx_at (by decide : ¬ (119 : Int32) < 0)]; rfl)) (by simp only [Cond.value, idx_at (by decide : ¬ (119 : Int32) < 0)]; rfl))) (own_in ht hcell 120 (by decide) (own_or (own_or (Cond.all_elim (ht []) harr nq24 (120 : Int32).toNatClampNeg (by rw [hsz]; decide)) (by simp only [Cond.value, idx_at (by decide : ¬ (120 : Int32) < 0)]; rfl)) (by simp only [Cond.value, idx_at (by decide : ¬ (120 : Int32) < 0)]; rfl))) (own_in ht hcell 121 (by decide) (own_or (own_or (Cond.all_elim (ht []) harr nq24 (121 : Int32).toNatClampNeg (by rw [hsz]; decide)) (by simp only [Cond.value, idx_at (by decide : ¬ (121 : Int32) < 0)]; rfl)) (by simp only [Cond.value, idx_at (by decide : ¬ (121 : Int32) < 0)]; rfl))) (own_in ht hcell 122 (by decide) (own_or (own_or (Cond.all_elim (ht []) harr nq24 (122 : Int32).toNatClampNeg (by rw [hsz]; decide)) (by simp only [Cond.value, idx_at (by decide : ¬ (122 : Int32) < 0)]; rfl)) (by simp only [Cond.value, idx_at (by decide : ¬ (122 : Int32) < 0)]; rfl))) (own_in ht hcell 123 (by decide) (own_or (Cond.all_elim (ht []) harr nr24 (123 : Int32).toNatClampNeg (by rw [hsz]; decide)) (by simp only [Cond.value, idx_at (by decide : ¬ (123 : Int32) < 0)]; rfl))) (own_in ht hcell 124 (by decide) (own_or (Cond.all_elim (ht []) harr nr24 (124 : Int32).toNatClampNeg (by rw [hsz]; decide)) (by simp only [Cond.value, idx_at (by decide : ¬ (124 : Int32) < 0)]; rfl))) (own_in ht hcell 125 (by decide) (own_or (Cond.all_elim (ht []) harr nr24 (125 : Int32).toNatClampNeg (by rw [hsz]; decide)) (by simp only [Cond.value, idx_at (by decide : ¬ (125 : Int32) < 0)]; rfl))) (own_in ht hcell 126 (by decide) (own_or (Cond.all_elim (ht []) harr nr24 (126 : Int32).toNatClampNeg (by rw [hsz]; decide)) (by simp only [Cond.value, idx_at (by decide : ¬ (126 : Int32) < 0)]; rfl))) (own_in ht hcell 127 (by decide) (own_or (Cond.all_elim (ht []) harr nr24 (127 : Int32).toNatClampNeg (by rw [hsz]; decide)) (by simp only [Cond.value, idx_at (by decide : ¬ (127 : Int32) < 0)]; rfl)))
  obtain ⟨n, o, h1, h2, h3, _, L, rfl, ⟨rfl, N⟩, hq⟩ := rm0 l s _ hw tables_1 i0 w1 cl s.heap s.heap.size (Nat.le_refl _) S1 TB hT p e ha hc hk s m _ below hf ((Spec.applies_iff_loose hf).mp happ).1 ⟨rfl, State.Warmed39.refl s, rfl⟩ trivial
  refine ⟨n, _, h1, h2, h3, hpost _ _ _ _ _ _ ⟨Cond.after_iff.mpr rfl, Cond.after_iff.mpr (eq_i res_at (Term.int_eval (1)) rfl), trivial⟩ ⟨hq.1, hq.2.1, (hq.2.2.sift fun y hy => Or.inr (N y hy)).mono (by decide) (by decide)⟩⟩
theorem main_1_1 : Claimed_1_1 := comes_1 fun _ _ _ _ _ _ h hF => ⟨h.1, hF⟩
theorem main_1_2 : Claimed_1_2 := comes_1 fun _ _ _ _ _ _ h hF => ⟨h.2.1, hF⟩
end Jvm.Pilot.@@N@@
namespace Jvm.Pilot.@@N@@
open Jvm Jvm.ClassFile Sem Op Lib Jvm.Free Jvm.Stand Jvm.Pilot.@@N@@.Jvm.D
/-! MADE BY PROGRAM (witnessworld.py) out of the Statement's table words and the real class files: 11 classes; the members and pool entries that the words name. The judged class is class 1, her method 1. -/
namespace start1
open Jvm.ClassFile
def u (s : String) : CpInfo := .utf8 (stringToUtf16 s)
/-- a pool by its gaps: so many unusable entries, then the entry; so many at the end -/
def gap : Nat → List CpInfo → List CpInfo
  | 0, r => r
  | n + 1, r => .unusable :: gap n r
def poolList (es : List (Nat × CpInfo)) (last : Nat) : List CpInfo := es.foldr (fun e r => gap e.1 (e.2 :: r)) (gap last [])
def pool (es : List (Nat × CpInfo)) (last : Nat) : Array CpInfo := ⟨poolList es last⟩
def fileOf (pool : Array CpInfo) (this : Nat) (attrs : Array Attribute := #[]) (ms : Array MethodInfo := #[]) (fl : Nat := 33) (sup : Nat := 0) (ifs : Array Nat := #[]) (fds : Array FieldInfo := #[]) : ClassFile where
  minorVersion := 0
  majorVersion := 65
  constantPool := pool
  accessFlags := fl
  thisClass := this
  superClass := sup
  interfaces := ifs
  fields := fds
  methods := ms
  attributes := attrs
def plain (name : String) (sup : Option ClassId) : Class where
  name := name
  kind := .ordinary
  loader := none
  accessFlags := 33
  super := sup
  interfaces := #[]
  cf := none
  fields := #[]
  methods := #[]
  instanceTypes := #[]
  staticTypes := #[]
  resolved := #[]
  callSites := []
  init := .initialized
  statics := none
  mirror := none

def pool0 : Array CpInfo := pool [(5, u "<init>"), (0, u "()V"), (1, .class_ 10), (1, u "java/lang/Object")] 113

def k0m0 : Method := { name := "<init>", desc := "()V", sig := { parameters := [], returnType := none }, accessFlags := 1, code := none }
/-- java/lang/Object -/
def k0 : Class := { plain "java/lang/Object" none with
  accessFlags := 33
  interfaces := #[]
  cf := some (fileOf pool0 8 #[] #[{ accessFlags := 1, nameIndex := 5, descriptorIndex := 6, attributes := #[] }] 33 0 #[] #[])
  fields := #[]
  methods := #[k0m0]
  instanceTypes := #[]
  staticTypes := #[]
  resolved := Array.replicate 124 none
  statics := none }

def pool1 : Array CpInfo := pool [(2, .class_ 4), (1, u "java/lang/Object"), (0, u "<init>"), (0, u "()V"), (0, .methodref 8 9), (0, .class_ 10), (0, .nameAndType 11 12), (0, u "com/example/fpi_to_urn/fpitourn/PubidChars"), (0, u "contains"), (0, u "(C)Z"), (0, .methodref 14 15), (0, .class_ 16), (0, .nameAndType 17 12), (0, u "com/example/fpi_to_urn/fpitourn/PubidCharsContainsPinLaw"), (0, u "expected"), (2, u "law"), (0, u "(I)Z")] 3

def k1m0 : Method := { name := "<init>", desc := "()V", sig := { parameters := [], returnType := none }, accessFlags := 2, code := none }
def k1c1 : Code := { maxStack := 2, maxLocals := 2, code := code, exceptionTable := #[], attributes := #[] }
def k1m1 : Method := { name := "law", desc := "(I)Z", sig := { parameters := [.int], returnType := some .boolean }, accessFlags := 9, code := some k1c1 }
def k1c2 : Code := { maxStack := 2, maxLocals := 1, code := method_3_code, exceptionTable := #[], attributes := #[] }
def k1m2 : Method := { name := "expected", desc := "(C)Z", sig := { parameters := [.char], returnType := some .boolean }, accessFlags := 10, code := some k1c2 }
/-- com/example/fpi_to_urn/fpitourn/PubidCharsContainsPinLaw -/
def k1 : Class := { plain "com/example/fpi_to_urn/fpitourn/PubidCharsContainsPinLaw" (some 0) with
  accessFlags := 49
  interfaces := #[]
  cf := some (fileOf pool1 14 #[] #[{ accessFlags := 2, nameIndex := 5, descriptorIndex := 6, attributes := #[] }, { accessFlags := 9, nameIndex := 20, descriptorIndex := 21, attributes := #[] }, { accessFlags := 10, nameIndex := 17, descriptorIndex := 12, attributes := #[] }] 49 2 #[] #[])
  fields := #[]
  methods := #[k1m0, k1m1, k1m2]
  instanceTypes := #[]
  staticTypes := #[]
  resolved := Array.replicate 25 none
  statics := none }

def pool2 : Array CpInfo := pool [(2, .class_ 4), (1, u "java/lang/Object"), (0, u "<init>"), (0, u "()V"), (0, .fieldref 8 9), (0, .class_ 10), (0, .nameAndType 11 12), (0, u "com/example/fpi_to_urn/fpitourn/PubidChars"), (0, u "TABLE"), (0, u "[Z"), (12, u "contains"), (0, u "(C)Z"), (40, u "OTHERS"), (0, u "Ljava/lang/String;")] 25

def k2m0 : Method := { name := "<init>", desc := "()V", sig := { parameters := [], returnType := none }, accessFlags := 2, code := none }
def k2c1 : Code := { maxStack := 2, maxLocals := 1, code := prog_12_method_2_code, exceptionTable := #[], attributes := #[] }
def k2m1 : Method := { name := "contains", desc := "(C)Z", sig := { parameters := [.char], returnType := some .boolean }, accessFlags := 8, code := some k2c1 }
/-- com/example/fpi_to_urn/fpitourn/PubidChars -/
def k2 : Class := { plain "com/example/fpi_to_urn/fpitourn/PubidChars" (some 0) with
  accessFlags := 32
  interfaces := #[]
  cf := some (fileOf pool2 8 #[] #[{ accessFlags := 2, nameIndex := 5, descriptorIndex := 6, attributes := #[] }, { accessFlags := 8, nameIndex := 25, descriptorIndex := 26, attributes := #[] }] 32 2 #[] #[{ accessFlags := 26, nameIndex := 67, descriptorIndex := 68, attributes := #[] }, { accessFlags := 26, nameIndex := 11, descriptorIndex := 12, attributes := #[] }])
  fields := #[{ name := "OTHERS", type := (.object "java/lang/String"), accessFlags := 26, slot := 0, constantValue := 0 }, { name := "TABLE", type := (.array .boolean), accessFlags := 26, slot := 1, constantValue := 0 }]
  methods := #[k2m0, k2m1]
  instanceTypes := #[]
  staticTypes := #[(.object "java/lang/String"), (.array .boolean)]
  resolved := Array.replicate 94 none
  statics := some 0 }

def pool3 : Array CpInfo := pool [(1, u "java/lang/Cloneable"), (0, .class_ 1), (0, u "java/lang/Object"), (0, .class_ 3)] 3

/-- java/lang/Cloneable -/
def k3 : Class := { plain "java/lang/Cloneable" (some 0) with
  accessFlags := 1537
  interfaces := #[]
  cf := some (fileOf pool3 2 #[] #[] 1537 4 #[] #[])
  fields := #[]
  methods := #[]
  instanceTypes := #[]
  staticTypes := #[]
  resolved := Array.replicate 8 none
  statics := none }

def pool4 : Array CpInfo := pool [(1, u "java/io/Serializable"), (0, .class_ 1), (0, u "java/lang/Object"), (0, .class_ 3)] 3

/-- java/io/Serializable -/
def k4 : Class := { plain "java/io/Serializable" (some 0) with
  accessFlags := 1537
  interfaces := #[]
  cf := some (fileOf pool4 2 #[] #[] 1537 4 #[] #[])
  fields := #[]
  methods := #[]
  instanceTypes := #[]
  staticTypes := #[]
  resolved := Array.replicate 8 none
  statics := none }

/-- the primitive boolean -/
def k5 : Class := { plain "boolean" none with kind := .primitive 'Z', accessFlags := 0x411 }
/-- [Z -/
def k6 : Class := { plain "[Z" (some 0) with kind := .array 5 .boolean, interfaces := #[3, 4], accessFlags := 1041 }

/-- the primitive byte -/
def k7 : Class := { plain "byte" none with kind := .primitive 'B', accessFlags := 0x411 }
/-- [B -/
def k8 : Class := { plain "[B" (some 0) with kind := .array 7 .byte, interfaces := #[3, 4], accessFlags := 1041 }

/-- the primitive int -/
def k9 : Class := { plain "int" none with kind := .primitive 'I', accessFlags := 0x411 }
/-- [I -/
def k10 : Class := { plain "[I" (some 0) with kind := .array 9 .int, interfaces := #[3, 4], accessFlags := 1041 }

def heap : Heap := #[{ cls := 2, slots := #[.null, .ref 1], vm := .statics 2 },
  { cls := 6, slots := #[.int 0, .int 0, .int 0, .int 0, .int 0, .int 0, .int 0, .int 0, .int 0, .int 0, .int 1, .int 0, .int 0, .int 1, .int 0, .int 0, .int 0, .int 0, .int 0, .int 0, .int 0, .int 0, .int 0, .int 0, .int 0, .int 0, .int 0, .int 0, .int 0, .int 0, .int 0, .int 0, .int 1, .int 1, .int 0, .int 1, .int 1, .int 1, .int 0, .int 1, .int 1, .int 1, .int 1, .int 1, .int 1, .int 1, .int 1, .int 1, .int 1, .int 1, .int 1, .int 1, .int 1, .int 1, .int 1, .int 1, .int 1, .int 1, .int 1, .int 1, .int 0, .int 1, .int 0, .int 1, .int 1, .int 1, .int 1, .int 1, .int 1, .int 1, .int 1, .int 1, .int 1, .int 1, .int 1, .int 1, .int 1, .int 1, .int 1, .int 1, .int 1, .int 1, .int 1, .int 1, .int 1, .int 1, .int 1, .int 1, .int 1, .int 1, .int 1, .int 0, .int 0, .int 0, .int 0, .int 1, .int 0, .int 1, .int 1, .int 1, .int 1, .int 1, .int 1, .int 1, .int 1, .int 1, .int 1, .int 1, .int 1, .int 1, .int 1, .int 1, .int 1, .int 1, .int 1, .int 1, .int 1, .int 1, .int 1, .int 1, .int 1, .int 1, .int 1, .int 0, .int 0, .int 0, .int 0, .int 0], vm := .none }]
def classes : Array Class := #[k0, k1, k2, k3, k4, k5, k6, k7, k8, k9, k10]
def interned : List (Array UInt16 × Addr) := []
def slotsUsed : Nat := 130
def theMethod : MethodId := ⟨1, 1⟩
def args0 : Array Value := #[.int 5]
def aboutOver (below : List Frame) : State where
  vm := { classes := classes, interned := interned.toArray }
  heap := heap
  slotsUsed := slotsUsed
  threads := #[{ frames := .invoking theMethod args0 :: below }]
def below0 : List Frame := [.native { method := ⟨0, 0⟩, args := #[] }]
def about1 : State := aboutOver below0
def p0 : Program := .bare "" "" ""
def e0 : Env := launch0.env 0 0 0
theorem w_frames : about1.frames = Frame.invoking theMethod args0 :: below0 := rfl
set_option maxRecDepth 65536 in
theorem w_args : argsFit about1.vm theMethod args0 = true := by decide +kernel
set_option maxRecDepth 65536 in
theorem w_heap : heapFits about1 = true := by decide +kernel
set_option maxRecDepth 65536 in
theorem w_runnable : about1.curStatus? = some .runnable := by decide +kernel
set_option maxRecDepth 65536 in
theorem w_alone : about1.alone = true := by decide +kernel
set_option maxRecDepth 65536 in
theorem w_named : about1.methodNamed? x = some theMethod := by decide +kernel
set_option maxRecDepth 65536 in
theorem w_hears : about1.hears theMethod below0 = true := by decide +kernel
set_option maxRecDepth 65536 in
theorem w_ripe : about1.ripe theMethod args0 below0 = true := by decide +kernel
theorem w_running : about1.status = .running := rfl
set_option maxRecDepth 65536 in
theorem w_room : about1.hasRoom e0.platform room_1 = true :=
  launch0.hasRoom_least _ room_1 (by decide +kernel) (by decide +kernel) (by decide +kernel) (by decide +kernel) (by decide +kernel) (by decide +kernel)
theorem allAtoms_all (ts : List Jvm.Cond) (a : Array Jvm.Value) (st : Jvm.State) : (allAtoms ts).before a st = ts.all (fun c => c.before a st) := by
  induction ts with
  | nil => rfl
  | cons c t ih =>
    show (Jvm.Cond.and c (allAtoms t)).before a st = _
    rw [Jvm.Cond.before_and, ih, List.all_cons]
def words1 : List Jvm.Cond := Jvm.Cond.code x code maxLocals ret :: tables_1
/-- a 'code' word, met by the world's own term for the bytes: nothing is compared byte by byte -/
theorem code_word {y : MethodName} {bytes : ByteArray} {mx : Nat} {rt : Option FieldType} {a : Array Value} {s : State} {m : MethodId} {meth : Method} {c : Code} (h1 : s.methodNamed? y = some m) (h2 : s.vm.method? m = some meth) (h3 : meth.code = some c) (h4 : c.code = bytes)
    (h5 : (c.maxLocals == mx && c.exceptionTable.isEmpty && decide (c.maxStack ≤ mostOperands) && decide (meth.sig.returnType = rt) && !meth.locks && decide (parseMethodDescriptor y.desc = some meth.sig)) = true) : (Jvm.Cond.code y bytes mx rt).before a s = true := by
  simp only [Bool.and_eq_true, beq_iff_eq, Bool.not_eq_true', decide_eq_true_eq] at h5
  obtain ⟨⟨⟨⟨⟨g1, g2⟩, g3⟩, g4⟩, g5⟩, g6⟩ := h5
  simp [Cond.before, Cond.holds, Cond.value, h1, h2, h3, h4, g1, g2, g3, g4, g5, g6]
def isCode : Jvm.Cond → Bool
  | .code _ _ _ _ => true
  | _ => false
theorem all_split {L : List Jvm.Cond} {P : Jvm.Cond → Bool} (h1 : L.all (fun c => isCode c || P c) = true) (h2 : ∀ c ∈ L.filter isCode, P c = true) : L.all P = true := by
  refine List.all_eq_true.mpr fun c hc => ?_
  have h := List.all_eq_true.mp h1 c hc
  rcases Bool.eq_false_or_eq_true (isCode c) with hi | hi
  · exact h2 c (List.mem_filter.mpr ⟨hc, hi⟩)
  · simpa [hi] using h
set_option maxRecDepth 65536 in
theorem w_c0 : (Jvm.Cond.code x code maxLocals ret).before args0 about1 = true := code_word (m := ⟨1, 1⟩) (meth := k1m1) (c := k1c1) (by decide +kernel) rfl rfl rfl (by decide +kernel)
set_option maxRecDepth 65536 in
theorem w_c1 : (Jvm.Cond.code ({ cls := "com/example/fpi_to_urn/fpitourn/PubidChars", name := "contains", desc := "(C)Z" } : Jvm.MethodName) prog_12_method_2_code (1 : Nat) (Option.some Jvm.ClassFile.FieldType.boolean)).before args0 about1 = true := code_word (m := ⟨2, 1⟩) (meth := k2m1) (c := k2c1) (by decide +kernel) rfl rfl rfl (by decide +kernel)
set_option maxRecDepth 65536 in
theorem w_c2 : (Jvm.Cond.code ({ cls := "com/example/fpi_to_urn/fpitourn/PubidCharsContainsPinLaw", name := "expected", desc := "(C)Z" } : Jvm.MethodName) method_3_code (1 : Nat) (Option.some Jvm.ClassFile.FieldType.boolean)).before args0 about1 = true := code_word (m := ⟨1, 2⟩) (meth := k1m2) (c := k1c2) (by decide +kernel) rfl rfl rfl (by decide +kernel)
def codes1 : List Jvm.Cond := [Jvm.Cond.code x code maxLocals ret, Jvm.Cond.code ({ cls := "com/example/fpi_to_urn/fpitourn/PubidChars", name := "contains", desc := "(C)Z" } : Jvm.MethodName) prog_12_method_2_code (1 : Nat) (Option.some Jvm.ClassFile.FieldType.boolean), Jvm.Cond.code ({ cls := "com/example/fpi_to_urn/fpitourn/PubidCharsContainsPinLaw", name := "expected", desc := "(C)Z" } : Jvm.MethodName) method_3_code (1 : Nat) (Option.some Jvm.ClassFile.FieldType.boolean)]
set_option maxRecDepth 65536 in
theorem codes_eq : words1.filter isCode = codes1 := rfl
theorem w_codes : ∀ c ∈ words1.filter isCode, c.before args0 about1 = true := by
  rw [codes_eq]
  intro c hc
  simp only [codes1, List.mem_cons, List.not_mem_nil, or_false] at hc
  rcases hc with rfl | rfl | rfl
  · exact w_c0
  · exact w_c1
  · exact w_c2
set_option maxRecDepth 65536 in
theorem w_t1 : words1.all (fun c => isCode c || c.before args0 about1) = true := by decide +kernel
theorem w_tables : (allAtoms (Jvm.Cond.code x code maxLocals ret :: tables_1)).before args0 about1 = true := by
  rw [allAtoms_all]
  show words1.all (fun c => c.before args0 about1) = true
  refine all_split ?_ w_codes
  rw [w_t1]
set_option maxRecDepth 65536 in
theorem w_case : (Jvm.Cond.and given_1 narrow_1).before args0 about1 = true := by decide +kernel
theorem w_applies : (headSpec (Jvm.Cond.code x code maxLocals ret :: tables_1) room_1).applies x e0.platform about1 = true :=
  (Spec.applies_iff w_frames).mpr ⟨w_running, w_runnable, w_alone, w_named, w_hears, w_ripe, w_room, w_tables⟩
theorem atStart : AtStart classFile x code maxLocals ret World_1 tables_1 room_1 Calls_1 rest_1 Pre_1 launch0 p0 e0 about1 theMethod args0 below0 :=
  ⟨lists_1, trivial, launch0.admits_env _ _ _, launch0.least_env, fairChoices_fair.cas, fairChoices_fair.clock, w_frames, w_args, w_heap, w_applies, trivial, trivial, w_case⟩
end start1
theorem witness_1 : WitnessClaimed_1 := ⟨start1.p0, start1.e0, start1.about1, start1.theMethod, start1.args0, start1.below0, start1.atStart⟩
end Jvm.Pilot.@@N@@
