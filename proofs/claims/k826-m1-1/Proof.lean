import JvmDerived
import JvmDerived.Pilot.@@N@@Statement
import JvmDerived.Pilot.@@N@@Code
set_option linter.unusedVariables false
set_option linter.unusedSimpArgs false
namespace Jvm.Pilot.@@N@@
open Jvm Jvm.ClassFile Sem Op Lib Jvm.Free Jvm.Stand Jvm.LawKit Jvm.RoadKit Bundle Jvm.Pilot.@@N@@.Jvm.D
section Own
variable {p : Program} {l : Launch} {e : Env} {R : Room} {s : State} {m : MethodId} {args : Array Value} {below : List Frame} {meth : Method} {c : Code} {T T' : State} {locs : List Loc} {cells slots : Nat} {QQ : Option Value → Heap → List Loc → Prop} {kc ks : Nat} {f f' : JFrame}
/-- from here the run comes to the method's return, with what QQ says -/
def own_Goes (p : Program) (e : Env) (below : List Frame) (s : State) (QQ : Option Value → Heap → List Loc → Prop) (kc ks : Nat) (T : State) (f : JFrame) : Prop :=
  ∃ s₂ o, Steps p.tables e below (T.setTop f) s₂ ∧ s₂.status = .running ∧ Ended s₂ below o ∧ ∃ v L, o = .returned v ∧ QQ v s₂.heap L ∧ FrameEnd s o s₂ L kc ks
theorem own_step (st : ∀ target, Steps p.tables e below (T'.setTop f') target → Steps p.tables e below (T.setTop f) target) (h : own_Goes p e below s QQ kc ks T' f') : own_Goes p e below s QQ kc ks T f := by
  obtain ⟨s₂, o, h1, r⟩ := h
  exact ⟨s₂, o, st _ h1, r⟩
theorem own_jump (st : Steps p.tables e below (T.setTop f) (T'.setTop f')) (h : own_Goes p e below s QQ kc ks T' f') : own_Goes p e below s QQ kc ks T f := by
  obtain ⟨s₂, o, h1, r⟩ := h
  exact ⟨s₂, o, st.trans h1, r⟩
theorem own_out {v : Option Value} (X : Stand p l e R s m args below meth c T locs cells slots) (hlk : meth.locks = false) (hv : meth.sig.returnType = none → v = none)
    (st : ∀ fs, (∀ (f : JFrame) (acts : List Action), f.method = m → f.locked = none → f.entered = [] → (doReturn e (T.setTop f) acts v).1 = T.setFrames fs) → Steps p.tables e below (T.setTop f) (T.setFrames fs)) (hc : cells ≤ kc) (hs : slots ≤ ks) (hq : QQ v T.heap locs) : own_Goes p e below s QQ kc ks T f := by
  obtain ⟨fs, hr, hrun, hended, hW, hsame⟩ := X.leave (v := v) hv hlk
  exact ⟨_, _, st fs hr, hrun, hended, v, locs, rfl, hq, ⟨_, rfl⟩, hW, hsame.mono hc hs⟩
theorem own_staKeep {Z : State} {h h' : Heap} {C n d : String} {v : Value} {ws : List Addr} (F : Sta Z h C n d v) (K : Keep h h' ws) (q : ∀ x ∈ ws, ∃ cell : Cell, h[x]? = some cell ∧ cell.vm.isStatics = false) : Sta Z h' C n d v := by
  obtain ⟨cf, i, k, f, st, cell, h1, h2, h3, h4, h5, h6, h7⟩ := F
  refine ⟨cf, i, k, f, st, cell, h1, h2, h3, h4, K.2.1 st cell h5 (fun z => ?_), h6, h7⟩
  obtain ⟨c', g1, g2⟩ := q st z
  rw [h5] at g1
  cases g1
  rw [h6] at g2
  cases g2
theorem own_exaNS {Z : State} {h : Heap} {a : Addr} {C : String} (F : Exa Z h a C) : ∃ cell : Cell, h[a]? = some cell ∧ cell.vm.isStatics = false := by
  obtain ⟨cell, k, h1, -, -, h4, -⟩ := F
  exact ⟨cell, h1, h4⟩
end Own
def own_ns_201 (p1 : Int32) : Int32 := (0 : Int32)
def own_ns_197 (p1 : Int32) : Int32 := (1 : Int32)
def own_ns_185 (p1 : Int32) : Int32 := (if p1 < (65536 : Int32) then (own_ns_201 p1) else (if (983039 : Int32) < p1 then (own_ns_201 p1) else (own_ns_197 p1)))
def own_ns_173 (p1 : Int32) : Int32 := (if p1 < (65008 : Int32) then (own_ns_185 p1) else (if (65533 : Int32) < p1 then (own_ns_185 p1) else (own_ns_197 p1)))
def own_ns_161 (p1 : Int32) : Int32 := (if p1 < (63744 : Int32) then (own_ns_173 p1) else (if (64975 : Int32) < p1 then (own_ns_173 p1) else (own_ns_197 p1)))
def own_ns_148 (p1 : Int32) : Int32 := (if p1 < (12289 : Int32) then (own_ns_161 p1) else (if (55295 : Int32) < p1 then (own_ns_161 p1) else (own_ns_197 p1)))
def own_ns_134 (p1 : Int32) : Int32 := (if p1 < (11264 : Int32) then (own_ns_148 p1) else (if (12271 : Int32) < p1 then (own_ns_148 p1) else (own_ns_197 p1)))
def own_ns_120 (p1 : Int32) : Int32 := (if p1 < (8304 : Int32) then (own_ns_134 p1) else (if (8591 : Int32) < p1 then (own_ns_134 p1) else (own_ns_197 p1)))
def own_ns_106 (p1 : Int32) : Int32 := (if p1 < (8204 : Int32) then (own_ns_120 p1) else (if (8205 : Int32) < p1 then (own_ns_120 p1) else (own_ns_197 p1)))
def own_ns_92 (p1 : Int32) : Int32 := (if p1 < (895 : Int32) then (own_ns_106 p1) else (if (8191 : Int32) < p1 then (own_ns_106 p1) else (own_ns_197 p1)))
def own_ns_78 (p1 : Int32) : Int32 := (if p1 < (880 : Int32) then (own_ns_92 p1) else (if (893 : Int32) < p1 then (own_ns_92 p1) else (own_ns_197 p1)))
def own_ns_64 (p1 : Int32) : Int32 := (if p1 < (248 : Int32) then (own_ns_78 p1) else (if (767 : Int32) < p1 then (own_ns_78 p1) else (own_ns_197 p1)))
def own_ns_50 (p1 : Int32) : Int32 := (if p1 < (216 : Int32) then (own_ns_64 p1) else (if (246 : Int32) < p1 then (own_ns_64 p1) else (own_ns_197 p1)))
def own_ns_36 (p1 : Int32) : Int32 := (if p1 < (192 : Int32) then (own_ns_50 p1) else (if (214 : Int32) < p1 then (own_ns_50 p1) else (own_ns_197 p1)))
def own_ns_24 (p1 : Int32) : Int32 := (if p1 < (97 : Int32) then (own_ns_36 p1) else (if (122 : Int32) < p1 then (own_ns_36 p1) else (own_ns_197 p1)))
def own_ns_0 (p1 : Int32) : Int32 := (if p1 = (58 : Int32) then (own_ns_197 p1) else (if p1 = (95 : Int32) then (own_ns_197 p1) else (if p1 < (65 : Int32) then (own_ns_24 p1) else (if (90 : Int32) < p1 then (own_ns_24 p1) else (own_ns_197 p1)))))
theorem d1_0 : decode prog_137_method_8_code 0 = .ok (.iload_n 0, 1) := by decide +kernel
theorem d1_1 : decode prog_137_method_8_code 1 = .ok (.bipush 58, 2) := by decide +kernel
theorem d1_3 : decode prog_137_method_8_code 3 = .ok (.if_icmp .eq 194, 3) := by decide +kernel
theorem d1_6 : decode prog_137_method_8_code 6 = .ok (.iload_n 0, 1) := by decide +kernel
theorem d1_7 : decode prog_137_method_8_code 7 = .ok (.bipush 95, 2) := by decide +kernel
theorem d1_9 : decode prog_137_method_8_code 9 = .ok (.if_icmp .eq 188, 3) := by decide +kernel
theorem d1_12 : decode prog_137_method_8_code 12 = .ok (.iload_n 0, 1) := by decide +kernel
theorem d1_13 : decode prog_137_method_8_code 13 = .ok (.bipush 65, 2) := by decide +kernel
theorem d1_15 : decode prog_137_method_8_code 15 = .ok (.if_icmp .lt 9, 3) := by decide +kernel
theorem d1_18 : decode prog_137_method_8_code 18 = .ok (.iload_n 0, 1) := by decide +kernel
theorem d1_19 : decode prog_137_method_8_code 19 = .ok (.bipush 90, 2) := by decide +kernel
theorem d1_21 : decode prog_137_method_8_code 21 = .ok (.if_icmp .le 176, 3) := by decide +kernel
theorem d1_24 : decode prog_137_method_8_code 24 = .ok (.iload_n 0, 1) := by decide +kernel
theorem d1_25 : decode prog_137_method_8_code 25 = .ok (.bipush 97, 2) := by decide +kernel
theorem d1_27 : decode prog_137_method_8_code 27 = .ok (.if_icmp .lt 9, 3) := by decide +kernel
theorem d1_30 : decode prog_137_method_8_code 30 = .ok (.iload_n 0, 1) := by decide +kernel
theorem d1_31 : decode prog_137_method_8_code 31 = .ok (.bipush 122, 2) := by decide +kernel
theorem d1_33 : decode prog_137_method_8_code 33 = .ok (.if_icmp .le 164, 3) := by decide +kernel
theorem d1_36 : decode prog_137_method_8_code 36 = .ok (.iload_n 0, 1) := by decide +kernel
theorem d1_37 : decode prog_137_method_8_code 37 = .ok (.sipush 192, 3) := by decide +kernel
theorem d1_40 : decode prog_137_method_8_code 40 = .ok (.if_icmp .lt 10, 3) := by decide +kernel
theorem d1_43 : decode prog_137_method_8_code 43 = .ok (.iload_n 0, 1) := by decide +kernel
theorem d1_44 : decode prog_137_method_8_code 44 = .ok (.sipush 214, 3) := by decide +kernel
theorem d1_47 : decode prog_137_method_8_code 47 = .ok (.if_icmp .le 150, 3) := by decide +kernel
theorem d1_50 : decode prog_137_method_8_code 50 = .ok (.iload_n 0, 1) := by decide +kernel
theorem d1_51 : decode prog_137_method_8_code 51 = .ok (.sipush 216, 3) := by decide +kernel
theorem d1_54 : decode prog_137_method_8_code 54 = .ok (.if_icmp .lt 10, 3) := by decide +kernel
theorem d1_57 : decode prog_137_method_8_code 57 = .ok (.iload_n 0, 1) := by decide +kernel
theorem d1_58 : decode prog_137_method_8_code 58 = .ok (.sipush 246, 3) := by decide +kernel
theorem d1_61 : decode prog_137_method_8_code 61 = .ok (.if_icmp .le 136, 3) := by decide +kernel
theorem d1_64 : decode prog_137_method_8_code 64 = .ok (.iload_n 0, 1) := by decide +kernel
theorem d1_65 : decode prog_137_method_8_code 65 = .ok (.sipush 248, 3) := by decide +kernel
theorem d1_68 : decode prog_137_method_8_code 68 = .ok (.if_icmp .lt 10, 3) := by decide +kernel
theorem d1_71 : decode prog_137_method_8_code 71 = .ok (.iload_n 0, 1) := by decide +kernel
theorem d1_72 : decode prog_137_method_8_code 72 = .ok (.sipush 767, 3) := by decide +kernel
theorem d1_75 : decode prog_137_method_8_code 75 = .ok (.if_icmp .le 122, 3) := by decide +kernel
theorem d1_78 : decode prog_137_method_8_code 78 = .ok (.iload_n 0, 1) := by decide +kernel
theorem d1_79 : decode prog_137_method_8_code 79 = .ok (.sipush 880, 3) := by decide +kernel
theorem d1_82 : decode prog_137_method_8_code 82 = .ok (.if_icmp .lt 10, 3) := by decide +kernel
theorem d1_85 : decode prog_137_method_8_code 85 = .ok (.iload_n 0, 1) := by decide +kernel
theorem d1_86 : decode prog_137_method_8_code 86 = .ok (.sipush 893, 3) := by decide +kernel
theorem d1_89 : decode prog_137_method_8_code 89 = .ok (.if_icmp .le 108, 3) := by decide +kernel
theorem d1_92 : decode prog_137_method_8_code 92 = .ok (.iload_n 0, 1) := by decide +kernel
theorem d1_93 : decode prog_137_method_8_code 93 = .ok (.sipush 895, 3) := by decide +kernel
theorem d1_96 : decode prog_137_method_8_code 96 = .ok (.if_icmp .lt 10, 3) := by decide +kernel
theorem d1_99 : decode prog_137_method_8_code 99 = .ok (.iload_n 0, 1) := by decide +kernel
theorem d1_100 : decode prog_137_method_8_code 100 = .ok (.sipush 8191, 3) := by decide +kernel
theorem d1_103 : decode prog_137_method_8_code 103 = .ok (.if_icmp .le 94, 3) := by decide +kernel
theorem d1_106 : decode prog_137_method_8_code 106 = .ok (.iload_n 0, 1) := by decide +kernel
theorem d1_107 : decode prog_137_method_8_code 107 = .ok (.sipush 8204, 3) := by decide +kernel
theorem d1_110 : decode prog_137_method_8_code 110 = .ok (.if_icmp .lt 10, 3) := by decide +kernel
theorem d1_113 : decode prog_137_method_8_code 113 = .ok (.iload_n 0, 1) := by decide +kernel
theorem d1_114 : decode prog_137_method_8_code 114 = .ok (.sipush 8205, 3) := by decide +kernel
theorem d1_117 : decode prog_137_method_8_code 117 = .ok (.if_icmp .le 80, 3) := by decide +kernel
theorem d1_120 : decode prog_137_method_8_code 120 = .ok (.iload_n 0, 1) := by decide +kernel
theorem d1_121 : decode prog_137_method_8_code 121 = .ok (.sipush 8304, 3) := by decide +kernel
theorem d1_124 : decode prog_137_method_8_code 124 = .ok (.if_icmp .lt 10, 3) := by decide +kernel
theorem d1_127 : decode prog_137_method_8_code 127 = .ok (.iload_n 0, 1) := by decide +kernel
theorem d1_128 : decode prog_137_method_8_code 128 = .ok (.sipush 8591, 3) := by decide +kernel
theorem d1_131 : decode prog_137_method_8_code 131 = .ok (.if_icmp .le 66, 3) := by decide +kernel
theorem d1_134 : decode prog_137_method_8_code 134 = .ok (.iload_n 0, 1) := by decide +kernel
theorem d1_135 : decode prog_137_method_8_code 135 = .ok (.sipush 11264, 3) := by decide +kernel
theorem d1_138 : decode prog_137_method_8_code 138 = .ok (.if_icmp .lt 10, 3) := by decide +kernel
theorem d1_141 : decode prog_137_method_8_code 141 = .ok (.iload_n 0, 1) := by decide +kernel
theorem d1_142 : decode prog_137_method_8_code 142 = .ok (.sipush 12271, 3) := by decide +kernel
theorem d1_145 : decode prog_137_method_8_code 145 = .ok (.if_icmp .le 52, 3) := by decide +kernel
theorem d1_148 : decode prog_137_method_8_code 148 = .ok (.iload_n 0, 1) := by decide +kernel
theorem d1_149 : decode prog_137_method_8_code 149 = .ok (.sipush 12289, 3) := by decide +kernel
theorem d1_152 : decode prog_137_method_8_code 152 = .ok (.if_icmp .lt 9, 3) := by decide +kernel
theorem d1_155 : decode prog_137_method_8_code 155 = .ok (.iload_n 0, 1) := by decide +kernel
theorem d1_156 : decode prog_137_method_8_code 156 = .ok (.ldc 7, 2) := by decide +kernel
theorem d1_158 : decode prog_137_method_8_code 158 = .ok (.if_icmp .le 39, 3) := by decide +kernel
theorem d1_161 : decode prog_137_method_8_code 161 = .ok (.iload_n 0, 1) := by decide +kernel
theorem d1_162 : decode prog_137_method_8_code 162 = .ok (.ldc 47, 2) := by decide +kernel
theorem d1_164 : decode prog_137_method_8_code 164 = .ok (.if_icmp .lt 9, 3) := by decide +kernel
theorem d1_167 : decode prog_137_method_8_code 167 = .ok (.iload_n 0, 1) := by decide +kernel
theorem d1_168 : decode prog_137_method_8_code 168 = .ok (.ldc 48, 2) := by decide +kernel
theorem d1_170 : decode prog_137_method_8_code 170 = .ok (.if_icmp .le 27, 3) := by decide +kernel
theorem d1_173 : decode prog_137_method_8_code 173 = .ok (.iload_n 0, 1) := by decide +kernel
theorem d1_174 : decode prog_137_method_8_code 174 = .ok (.ldc 49, 2) := by decide +kernel
theorem d1_176 : decode prog_137_method_8_code 176 = .ok (.if_icmp .lt 9, 3) := by decide +kernel
theorem d1_179 : decode prog_137_method_8_code 179 = .ok (.iload_n 0, 1) := by decide +kernel
theorem d1_180 : decode prog_137_method_8_code 180 = .ok (.ldc 9, 2) := by decide +kernel
theorem d1_182 : decode prog_137_method_8_code 182 = .ok (.if_icmp .le 15, 3) := by decide +kernel
theorem d1_185 : decode prog_137_method_8_code 185 = .ok (.iload_n 0, 1) := by decide +kernel
theorem d1_186 : decode prog_137_method_8_code 186 = .ok (.ldc 10, 2) := by decide +kernel
theorem d1_188 : decode prog_137_method_8_code 188 = .ok (.if_icmp .lt 13, 3) := by decide +kernel
theorem d1_191 : decode prog_137_method_8_code 191 = .ok (.iload_n 0, 1) := by decide +kernel
theorem d1_192 : decode prog_137_method_8_code 192 = .ok (.ldc 50, 2) := by decide +kernel
theorem d1_194 : decode prog_137_method_8_code 194 = .ok (.if_icmp .gt 7, 3) := by decide +kernel
theorem d1_197 : decode prog_137_method_8_code 197 = .ok (.iconst 1, 1) := by decide +kernel
theorem d1_198 : decode prog_137_method_8_code 198 = .ok (.goto 4, 3) := by decide +kernel
theorem d1_201 : decode prog_137_method_8_code 201 = .ok (.iconst 0, 1) := by decide +kernel
theorem d1_202 : decode prog_137_method_8_code 202 = .ok (.ireturn, 1) := by decide +kernel
theorem pn_0 : plainName "com/example/valbonne/valbonne/schema/XmlChars" = true := by first | (simp [plainName, overriddenIn]; done) | decide +kernel
theorem ef_1 (m : MethodId) (x0 : Int32) : entryFrame m #[(.int x0)] 1 = mkF m 0 #[.val (.int x0)] [] := by first | (simp [entryFrame, mkF, argsToLocals, Value.category]; done) | rfl
def Q1 (Z : State) (p1 : Int32) (h0 : Heap) (n0 : Nat) (v : Option Value) (h : Heap) (L : List Loc) : Prop := v = some (.int (own_ns_0 p1)) ∧ L = [] ∧ h = h0
abbrev R1 : Room := { frames := 0, cells := 0, slots := 0, locals := 0 }
set_option maxRecDepth 65536 in
set_option maxHeartbeats 40000000 in
theorem rm1 (l : Launch) (Z : State) (a0 : Array Value) (hw : ∀ d ∈ tables_1, d.before a0 Z = true) (ws : List Jvm.Cond) (p1 : Int32) (h0 : Heap) (n0 : Nat) (Z0 : n0 ≤ h0.size)  :
    MetFree l (⟨"com/example/valbonne/valbonne/schema/XmlChars", "isNameStartChar", "(I)Z"⟩ : MethodName) (head1 (Jvm.Cond.code (⟨"com/example/valbonne/valbonne/schema/XmlChars", "isNameStartChar", "(I)Z"⟩ : MethodName) prog_137_method_8_code 1 (some .boolean) :: ws) R1) (fun a U => a = #[(.int p1)] ∧ Z.Warmed39 U.vm ∧ U.heap = h0) (fun _ _ _ _ _ => True) (fun _ U o U' => ∃ v L, o = .returned v ∧ Q1 Z p1 h0 n0 v U'.heap L ∧ FrameEnd U o U' L R1.cells R1.slots) := by
  refine MetFree.of_bodySF (plainFor_of_name pn_0) hisR ?_
  intro p e s m args below meth c s₁ Bd hml0 hP hK
  obtain ⟨rfl, hZ, hh⟩ := hP
  have hx := Bd.exec
  have hby := Bd.bytes
  have hlk : meth.locks = false := BodyLoose.notSynchronized Bd
  have hml : c.maxLocals = 1 := hml0
  have hown : s.vm.findClass "com/example/valbonne/valbonne/schema/XmlChars" = some m.cls := findClass_of_methodNamed Bd.named
  have hnm := (name_of_methodNamed Bd.named Bd.method).1
  have X0 : Stand p l e R1 s m #[(.int p1)] below meth c s₁ [] 0 0 := Stand.of_body Bd
  have e0 : s₁.heap = h0 := by rw [← hh, Bd.state]; rfl
  have N0 := Fr.nil n0
  show own_Goes p e below s (Q1 Z p1 h0 n0) R1.cells R1.slots s₁ (entryFrame m #[(.int p1)] 1)
  rw [ef_1 m p1]
  have K_201 : ∀ (T_201 : State), Stand p l e R1 s m #[(.int p1)] below meth c T_201 [] 0 0 → T_201.heap = h0 → own_ns_0 p1 = own_ns_201 p1 → own_Goes p e below s (Q1 Z p1 h0 n0) R1.cells R1.slots T_201 (mkF m 201 #[.val (.int p1)] []) := by
    intro T_201 X_201 e_201 hq_201
    refine own_step (f' := (mkF m 202 #[.val (.int p1)] [(.int (0 : Int32))])) (fun _ k => XS.iconst X_201.here hx rfl (hb hby d1_201) k) ?_
    refine own_out (v := some (.int (0 : Int32))) X_201 hlk (fun h => by rw [Bd.returns] at h; cases h) (fun fs hr => retN X_201 hx (t := .boolean) Bd.returns (by simp) (hb hby d1_202) hr) (by decide) (by decide) ?_
    rw [e_201]
    exact ⟨(by rw [hq_201, own_ns_201]), rfl, rfl⟩
  have K_197 : ∀ (T_197 : State), Stand p l e R1 s m #[(.int p1)] below meth c T_197 [] 0 0 → T_197.heap = h0 → own_ns_0 p1 = own_ns_197 p1 → own_Goes p e below s (Q1 Z p1 h0 n0) R1.cells R1.slots T_197 (mkF m 197 #[.val (.int p1)] []) := by
    intro T_197 X_197 e_197 hq_197
    refine own_step (f' := (mkF m 198 #[.val (.int p1)] [(.int (1 : Int32))])) (fun _ k => XS.iconst X_197.here hx rfl (hb hby d1_197) k) ?_
    refine own_step (f' := (mkF m 202 #[.val (.int p1)] [(.int (1 : Int32))])) (fun _ k => XS.goto X_197.here hx rfl (pc0 := 198) (pc' := 202) rfl (hb hby d1_198) (by decide) (by decide) k) ?_
    refine own_out (v := some (.int (1 : Int32))) X_197 hlk (fun h => by rw [Bd.returns] at h; cases h) (fun fs hr => retN X_197 hx (t := .boolean) Bd.returns (by simp) (hb hby d1_202) hr) (by decide) (by decide) ?_
    rw [e_197]
    exact ⟨(by rw [hq_197, own_ns_197]), rfl, rfl⟩
  have K_185 : ∀ (T_185 : State), Stand p l e R1 s m #[(.int p1)] below meth c T_185 [] 0 0 → T_185.heap = h0 → own_ns_0 p1 = own_ns_185 p1 → own_Goes p e below s (Q1 Z p1 h0 n0) R1.cells R1.slots T_185 (mkF m 185 #[.val (.int p1)] []) := by
    intro T_185 X_185 e_185 hq_185
    refine own_step (f' := (mkF m 186 #[.val (.int p1)] [(.int p1)])) (fun _ k => XS.iloadN X_185.here hx rfl (hb hby d1_185) rfl k) ?_
    refine own_step (f' := (mkF m 188 #[.val (.int p1)] [(.int (65536 : Int32)), (.int p1)])) (fun _ k => X_185.ldcInt hx hown (mvT hZ (hw _ (List.mem_of_getElem? (i := 43) rfl))) (g := (mkF m 186 #[.val (.int p1)] [(.int p1)])) rfl (hb hby d1_186) _ k) ?_
    by_cases hc188_1 : p1 < (65536 : Int32)
    · refine own_step (f' := (mkF m 201 #[.val (.int p1)] [])) (fun _ k => XS.icmpYes X_185.here hx rfl (pc0 := 188) (pc' := 201) rfl (hb hby d1_188) rfl (tlt hc188_1).1 (by decide) (by decide) k) ?_
      exact K_201 _ X_185 e_185 (by rw [hq_185, own_ns_185, if_pos hc188_1])
    · refine own_step (f' := (mkF m 191 #[.val (.int p1)] [])) (fun _ k => XS.icmpNo X_185.here hx rfl (hb hby d1_188) rfl (flt hc188_1).1 k) ?_
      refine own_step (f' := (mkF m 192 #[.val (.int p1)] [(.int p1)])) (fun _ k => XS.iloadN X_185.here hx rfl (hb hby d1_191) rfl k) ?_
      refine own_step (f' := (mkF m 194 #[.val (.int p1)] [(.int (983039 : Int32)), (.int p1)])) (fun _ k => X_185.ldcInt hx hown (mvT hZ (hw _ (List.mem_of_getElem? (i := 47) rfl))) (g := (mkF m 192 #[.val (.int p1)] [(.int p1)])) rfl (hb hby d1_192) _ k) ?_
      by_cases hc194_2 : (983039 : Int32) < p1
      · refine own_step (f' := (mkF m 201 #[.val (.int p1)] [])) (fun _ k => XS.icmpYes X_185.here hx rfl (pc0 := 194) (pc' := 201) rfl (hb hby d1_194) rfl (tlt hc194_2).2.2.1 (by decide) (by decide) k) ?_
        exact K_201 _ X_185 e_185 (by rw [hq_185, own_ns_185, if_neg hc188_1, if_pos hc194_2])
      · refine own_step (f' := (mkF m 197 #[.val (.int p1)] [])) (fun _ k => XS.icmpNo X_185.here hx rfl (hb hby d1_194) rfl (flt hc194_2).2.2.1 k) ?_
        exact K_197 _ X_185 e_185 (by rw [hq_185, own_ns_185, if_neg hc188_1, if_neg hc194_2])
  have K_173 : ∀ (T_173 : State), Stand p l e R1 s m #[(.int p1)] below meth c T_173 [] 0 0 → T_173.heap = h0 → own_ns_0 p1 = own_ns_173 p1 → own_Goes p e below s (Q1 Z p1 h0 n0) R1.cells R1.slots T_173 (mkF m 173 #[.val (.int p1)] []) := by
    intro T_173 X_173 e_173 hq_173
    refine own_step (f' := (mkF m 174 #[.val (.int p1)] [(.int p1)])) (fun _ k => XS.iloadN X_173.here hx rfl (hb hby d1_173) rfl k) ?_
    refine own_step (f' := (mkF m 176 #[.val (.int p1)] [(.int (65008 : Int32)), (.int p1)])) (fun _ k => X_173.ldcInt hx hown (mvT hZ (hw _ (List.mem_of_getElem? (i := 42) rfl))) (g := (mkF m 174 #[.val (.int p1)] [(.int p1)])) rfl (hb hby d1_174) _ k) ?_
    by_cases hc176_3 : p1 < (65008 : Int32)
    · refine own_step (f' := (mkF m 185 #[.val (.int p1)] [])) (fun _ k => XS.icmpYes X_173.here hx rfl (pc0 := 176) (pc' := 185) rfl (hb hby d1_176) rfl (tlt hc176_3).1 (by decide) (by decide) k) ?_
      exact K_185 _ X_173 e_173 (by rw [hq_173, own_ns_173, if_pos hc176_3])
    · refine own_step (f' := (mkF m 179 #[.val (.int p1)] [])) (fun _ k => XS.icmpNo X_173.here hx rfl (hb hby d1_176) rfl (flt hc176_3).1 k) ?_
      refine own_step (f' := (mkF m 180 #[.val (.int p1)] [(.int p1)])) (fun _ k => XS.iloadN X_173.here hx rfl (hb hby d1_179) rfl k) ?_
      refine own_step (f' := (mkF m 182 #[.val (.int p1)] [(.int (65533 : Int32)), (.int p1)])) (fun _ k => X_173.ldcInt hx hown (mvT hZ (hw _ (List.mem_of_getElem? (i := 46) rfl))) (g := (mkF m 180 #[.val (.int p1)] [(.int p1)])) rfl (hb hby d1_180) _ k) ?_
      by_cases hc182_4 : (65533 : Int32) < p1
      · refine own_step (f' := (mkF m 185 #[.val (.int p1)] [])) (fun _ k => XS.icmpNo X_173.here hx rfl (hb hby d1_182) rfl (tlt hc182_4).2.2.2 k) ?_
        exact K_185 _ X_173 e_173 (by rw [hq_173, own_ns_173, if_neg hc176_3, if_pos hc182_4])
      · refine own_step (f' := (mkF m 197 #[.val (.int p1)] [])) (fun _ k => XS.icmpYes X_173.here hx rfl (pc0 := 182) (pc' := 197) rfl (hb hby d1_182) rfl (flt hc182_4).2.2.2 (by decide) (by decide) k) ?_
        exact K_197 _ X_173 e_173 (by rw [hq_173, own_ns_173, if_neg hc176_3, if_neg hc182_4])
  have K_161 : ∀ (T_161 : State), Stand p l e R1 s m #[(.int p1)] below meth c T_161 [] 0 0 → T_161.heap = h0 → own_ns_0 p1 = own_ns_161 p1 → own_Goes p e below s (Q1 Z p1 h0 n0) R1.cells R1.slots T_161 (mkF m 161 #[.val (.int p1)] []) := by
    intro T_161 X_161 e_161 hq_161
    refine own_step (f' := (mkF m 162 #[.val (.int p1)] [(.int p1)])) (fun _ k => XS.iloadN X_161.here hx rfl (hb hby d1_161) rfl k) ?_
    refine own_step (f' := (mkF m 164 #[.val (.int p1)] [(.int (63744 : Int32)), (.int p1)])) (fun _ k => X_161.ldcInt hx hown (mvT hZ (hw _ (List.mem_of_getElem? (i := 41) rfl))) (g := (mkF m 162 #[.val (.int p1)] [(.int p1)])) rfl (hb hby d1_162) _ k) ?_
    by_cases hc164_5 : p1 < (63744 : Int32)
    · refine own_step (f' := (mkF m 173 #[.val (.int p1)] [])) (fun _ k => XS.icmpYes X_161.here hx rfl (pc0 := 164) (pc' := 173) rfl (hb hby d1_164) rfl (tlt hc164_5).1 (by decide) (by decide) k) ?_
      exact K_173 _ X_161 e_161 (by rw [hq_161, own_ns_161, if_pos hc164_5])
    · refine own_step (f' := (mkF m 167 #[.val (.int p1)] [])) (fun _ k => XS.icmpNo X_161.here hx rfl (hb hby d1_164) rfl (flt hc164_5).1 k) ?_
      refine own_step (f' := (mkF m 168 #[.val (.int p1)] [(.int p1)])) (fun _ k => XS.iloadN X_161.here hx rfl (hb hby d1_167) rfl k) ?_
      refine own_step (f' := (mkF m 170 #[.val (.int p1)] [(.int (64975 : Int32)), (.int p1)])) (fun _ k => X_161.ldcInt hx hown (mvT hZ (hw _ (List.mem_of_getElem? (i := 45) rfl))) (g := (mkF m 168 #[.val (.int p1)] [(.int p1)])) rfl (hb hby d1_168) _ k) ?_
      by_cases hc170_6 : (64975 : Int32) < p1
      · refine own_step (f' := (mkF m 173 #[.val (.int p1)] [])) (fun _ k => XS.icmpNo X_161.here hx rfl (hb hby d1_170) rfl (tlt hc170_6).2.2.2 k) ?_
        exact K_173 _ X_161 e_161 (by rw [hq_161, own_ns_161, if_neg hc164_5, if_pos hc170_6])
      · refine own_step (f' := (mkF m 197 #[.val (.int p1)] [])) (fun _ k => XS.icmpYes X_161.here hx rfl (pc0 := 170) (pc' := 197) rfl (hb hby d1_170) rfl (flt hc170_6).2.2.2 (by decide) (by decide) k) ?_
        exact K_197 _ X_161 e_161 (by rw [hq_161, own_ns_161, if_neg hc164_5, if_neg hc170_6])
  have K_148 : ∀ (T_148 : State), Stand p l e R1 s m #[(.int p1)] below meth c T_148 [] 0 0 → T_148.heap = h0 → own_ns_0 p1 = own_ns_148 p1 → own_Goes p e below s (Q1 Z p1 h0 n0) R1.cells R1.slots T_148 (mkF m 148 #[.val (.int p1)] []) := by
    intro T_148 X_148 e_148 hq_148
    refine own_step (f' := (mkF m 149 #[.val (.int p1)] [(.int p1)])) (fun _ k => XS.iloadN X_148.here hx rfl (hb hby d1_148) rfl k) ?_
    refine own_step (f' := (mkF m 152 #[.val (.int p1)] [(.int (12289 : Int32)), (.int p1)])) (fun _ k => XS.sipush X_148.here hx rfl (hb hby d1_149) k) ?_
    by_cases hc152_7 : p1 < (12289 : Int32)
    · refine own_step (f' := (mkF m 161 #[.val (.int p1)] [])) (fun _ k => XS.icmpYes X_148.here hx rfl (pc0 := 152) (pc' := 161) rfl (hb hby d1_152) rfl (tlt hc152_7).1 (by decide) (by decide) k) ?_
      exact K_161 _ X_148 e_148 (by rw [hq_148, own_ns_148, if_pos hc152_7])
    · refine own_step (f' := (mkF m 155 #[.val (.int p1)] [])) (fun _ k => XS.icmpNo X_148.here hx rfl (hb hby d1_152) rfl (flt hc152_7).1 k) ?_
      refine own_step (f' := (mkF m 156 #[.val (.int p1)] [(.int p1)])) (fun _ k => XS.iloadN X_148.here hx rfl (hb hby d1_155) rfl k) ?_
      refine own_step (f' := (mkF m 158 #[.val (.int p1)] [(.int (55295 : Int32)), (.int p1)])) (fun _ k => X_148.ldcInt hx hown (mvT hZ (hw _ (List.mem_of_getElem? (i := 44) rfl))) (g := (mkF m 156 #[.val (.int p1)] [(.int p1)])) rfl (hb hby d1_156) _ k) ?_
      by_cases hc158_8 : (55295 : Int32) < p1
      · refine own_step (f' := (mkF m 161 #[.val (.int p1)] [])) (fun _ k => XS.icmpNo X_148.here hx rfl (hb hby d1_158) rfl (tlt hc158_8).2.2.2 k) ?_
        exact K_161 _ X_148 e_148 (by rw [hq_148, own_ns_148, if_neg hc152_7, if_pos hc158_8])
      · refine own_step (f' := (mkF m 197 #[.val (.int p1)] [])) (fun _ k => XS.icmpYes X_148.here hx rfl (pc0 := 158) (pc' := 197) rfl (hb hby d1_158) rfl (flt hc158_8).2.2.2 (by decide) (by decide) k) ?_
        exact K_197 _ X_148 e_148 (by rw [hq_148, own_ns_148, if_neg hc152_7, if_neg hc158_8])
  have K_134 : ∀ (T_134 : State), Stand p l e R1 s m #[(.int p1)] below meth c T_134 [] 0 0 → T_134.heap = h0 → own_ns_0 p1 = own_ns_134 p1 → own_Goes p e below s (Q1 Z p1 h0 n0) R1.cells R1.slots T_134 (mkF m 134 #[.val (.int p1)] []) := by
    intro T_134 X_134 e_134 hq_134
    refine own_step (f' := (mkF m 135 #[.val (.int p1)] [(.int p1)])) (fun _ k => XS.iloadN X_134.here hx rfl (hb hby d1_134) rfl k) ?_
    refine own_step (f' := (mkF m 138 #[.val (.int p1)] [(.int (11264 : Int32)), (.int p1)])) (fun _ k => XS.sipush X_134.here hx rfl (hb hby d1_135) k) ?_
    by_cases hc138_9 : p1 < (11264 : Int32)
    · refine own_step (f' := (mkF m 148 #[.val (.int p1)] [])) (fun _ k => XS.icmpYes X_134.here hx rfl (pc0 := 138) (pc' := 148) rfl (hb hby d1_138) rfl (tlt hc138_9).1 (by decide) (by decide) k) ?_
      exact K_148 _ X_134 e_134 (by rw [hq_134, own_ns_134, if_pos hc138_9])
    · refine own_step (f' := (mkF m 141 #[.val (.int p1)] [])) (fun _ k => XS.icmpNo X_134.here hx rfl (hb hby d1_138) rfl (flt hc138_9).1 k) ?_
      refine own_step (f' := (mkF m 142 #[.val (.int p1)] [(.int p1)])) (fun _ k => XS.iloadN X_134.here hx rfl (hb hby d1_141) rfl k) ?_
      refine own_step (f' := (mkF m 145 #[.val (.int p1)] [(.int (12271 : Int32)), (.int p1)])) (fun _ k => XS.sipush X_134.here hx rfl (hb hby d1_142) k) ?_
      by_cases hc145_10 : (12271 : Int32) < p1
      · refine own_step (f' := (mkF m 148 #[.val (.int p1)] [])) (fun _ k => XS.icmpNo X_134.here hx rfl (hb hby d1_145) rfl (tlt hc145_10).2.2.2 k) ?_
        exact K_148 _ X_134 e_134 (by rw [hq_134, own_ns_134, if_neg hc138_9, if_pos hc145_10])
      · refine own_step (f' := (mkF m 197 #[.val (.int p1)] [])) (fun _ k => XS.icmpYes X_134.here hx rfl (pc0 := 145) (pc' := 197) rfl (hb hby d1_145) rfl (flt hc145_10).2.2.2 (by decide) (by decide) k) ?_
        exact K_197 _ X_134 e_134 (by rw [hq_134, own_ns_134, if_neg hc138_9, if_neg hc145_10])
  have K_120 : ∀ (T_120 : State), Stand p l e R1 s m #[(.int p1)] below meth c T_120 [] 0 0 → T_120.heap = h0 → own_ns_0 p1 = own_ns_120 p1 → own_Goes p e below s (Q1 Z p1 h0 n0) R1.cells R1.slots T_120 (mkF m 120 #[.val (.int p1)] []) := by
    intro T_120 X_120 e_120 hq_120
    refine own_step (f' := (mkF m 121 #[.val (.int p1)] [(.int p1)])) (fun _ k => XS.iloadN X_120.here hx rfl (hb hby d1_120) rfl k) ?_
    refine own_step (f' := (mkF m 124 #[.val (.int p1)] [(.int (8304 : Int32)), (.int p1)])) (fun _ k => XS.sipush X_120.here hx rfl (hb hby d1_121) k) ?_
    by_cases hc124_11 : p1 < (8304 : Int32)
    · refine own_step (f' := (mkF m 134 #[.val (.int p1)] [])) (fun _ k => XS.icmpYes X_120.here hx rfl (pc0 := 124) (pc' := 134) rfl (hb hby d1_124) rfl (tlt hc124_11).1 (by decide) (by decide) k) ?_
      exact K_134 _ X_120 e_120 (by rw [hq_120, own_ns_120, if_pos hc124_11])
    · refine own_step (f' := (mkF m 127 #[.val (.int p1)] [])) (fun _ k => XS.icmpNo X_120.here hx rfl (hb hby d1_124) rfl (flt hc124_11).1 k) ?_
      refine own_step (f' := (mkF m 128 #[.val (.int p1)] [(.int p1)])) (fun _ k => XS.iloadN X_120.here hx rfl (hb hby d1_127) rfl k) ?_
      refine own_step (f' := (mkF m 131 #[.val (.int p1)] [(.int (8591 : Int32)), (.int p1)])) (fun _ k => XS.sipush X_120.here hx rfl (hb hby d1_128) k) ?_
      by_cases hc131_12 : (8591 : Int32) < p1
      · refine own_step (f' := (mkF m 134 #[.val (.int p1)] [])) (fun _ k => XS.icmpNo X_120.here hx rfl (hb hby d1_131) rfl (tlt hc131_12).2.2.2 k) ?_
        exact K_134 _ X_120 e_120 (by rw [hq_120, own_ns_120, if_neg hc124_11, if_pos hc131_12])
      · refine own_step (f' := (mkF m 197 #[.val (.int p1)] [])) (fun _ k => XS.icmpYes X_120.here hx rfl (pc0 := 131) (pc' := 197) rfl (hb hby d1_131) rfl (flt hc131_12).2.2.2 (by decide) (by decide) k) ?_
        exact K_197 _ X_120 e_120 (by rw [hq_120, own_ns_120, if_neg hc124_11, if_neg hc131_12])
  have K_106 : ∀ (T_106 : State), Stand p l e R1 s m #[(.int p1)] below meth c T_106 [] 0 0 → T_106.heap = h0 → own_ns_0 p1 = own_ns_106 p1 → own_Goes p e below s (Q1 Z p1 h0 n0) R1.cells R1.slots T_106 (mkF m 106 #[.val (.int p1)] []) := by
    intro T_106 X_106 e_106 hq_106
    refine own_step (f' := (mkF m 107 #[.val (.int p1)] [(.int p1)])) (fun _ k => XS.iloadN X_106.here hx rfl (hb hby d1_106) rfl k) ?_
    refine own_step (f' := (mkF m 110 #[.val (.int p1)] [(.int (8204 : Int32)), (.int p1)])) (fun _ k => XS.sipush X_106.here hx rfl (hb hby d1_107) k) ?_
    by_cases hc110_13 : p1 < (8204 : Int32)
    · refine own_step (f' := (mkF m 120 #[.val (.int p1)] [])) (fun _ k => XS.icmpYes X_106.here hx rfl (pc0 := 110) (pc' := 120) rfl (hb hby d1_110) rfl (tlt hc110_13).1 (by decide) (by decide) k) ?_
      exact K_120 _ X_106 e_106 (by rw [hq_106, own_ns_106, if_pos hc110_13])
    · refine own_step (f' := (mkF m 113 #[.val (.int p1)] [])) (fun _ k => XS.icmpNo X_106.here hx rfl (hb hby d1_110) rfl (flt hc110_13).1 k) ?_
      refine own_step (f' := (mkF m 114 #[.val (.int p1)] [(.int p1)])) (fun _ k => XS.iloadN X_106.here hx rfl (hb hby d1_113) rfl k) ?_
      refine own_step (f' := (mkF m 117 #[.val (.int p1)] [(.int (8205 : Int32)), (.int p1)])) (fun _ k => XS.sipush X_106.here hx rfl (hb hby d1_114) k) ?_
      by_cases hc117_14 : (8205 : Int32) < p1
      · refine own_step (f' := (mkF m 120 #[.val (.int p1)] [])) (fun _ k => XS.icmpNo X_106.here hx rfl (hb hby d1_117) rfl (tlt hc117_14).2.2.2 k) ?_
        exact K_120 _ X_106 e_106 (by rw [hq_106, own_ns_106, if_neg hc110_13, if_pos hc117_14])
      · refine own_step (f' := (mkF m 197 #[.val (.int p1)] [])) (fun _ k => XS.icmpYes X_106.here hx rfl (pc0 := 117) (pc' := 197) rfl (hb hby d1_117) rfl (flt hc117_14).2.2.2 (by decide) (by decide) k) ?_
        exact K_197 _ X_106 e_106 (by rw [hq_106, own_ns_106, if_neg hc110_13, if_neg hc117_14])
  have K_92 : ∀ (T_92 : State), Stand p l e R1 s m #[(.int p1)] below meth c T_92 [] 0 0 → T_92.heap = h0 → own_ns_0 p1 = own_ns_92 p1 → own_Goes p e below s (Q1 Z p1 h0 n0) R1.cells R1.slots T_92 (mkF m 92 #[.val (.int p1)] []) := by
    intro T_92 X_92 e_92 hq_92
    refine own_step (f' := (mkF m 93 #[.val (.int p1)] [(.int p1)])) (fun _ k => XS.iloadN X_92.here hx rfl (hb hby d1_92) rfl k) ?_
    refine own_step (f' := (mkF m 96 #[.val (.int p1)] [(.int (895 : Int32)), (.int p1)])) (fun _ k => XS.sipush X_92.here hx rfl (hb hby d1_93) k) ?_
    by_cases hc96_15 : p1 < (895 : Int32)
    · refine own_step (f' := (mkF m 106 #[.val (.int p1)] [])) (fun _ k => XS.icmpYes X_92.here hx rfl (pc0 := 96) (pc' := 106) rfl (hb hby d1_96) rfl (tlt hc96_15).1 (by decide) (by decide) k) ?_
      exact K_106 _ X_92 e_92 (by rw [hq_92, own_ns_92, if_pos hc96_15])
    · refine own_step (f' := (mkF m 99 #[.val (.int p1)] [])) (fun _ k => XS.icmpNo X_92.here hx rfl (hb hby d1_96) rfl (flt hc96_15).1 k) ?_
      refine own_step (f' := (mkF m 100 #[.val (.int p1)] [(.int p1)])) (fun _ k => XS.iloadN X_92.here hx rfl (hb hby d1_99) rfl k) ?_
      refine own_step (f' := (mkF m 103 #[.val (.int p1)] [(.int (8191 : Int32)), (.int p1)])) (fun _ k => XS.sipush X_92.here hx rfl (hb hby d1_100) k) ?_
      by_cases hc103_16 : (8191 : Int32) < p1
      · refine own_step (f' := (mkF m 106 #[.val (.int p1)] [])) (fun _ k => XS.icmpNo X_92.here hx rfl (hb hby d1_103) rfl (tlt hc103_16).2.2.2 k) ?_
        exact K_106 _ X_92 e_92 (by rw [hq_92, own_ns_92, if_neg hc96_15, if_pos hc103_16])
      · refine own_step (f' := (mkF m 197 #[.val (.int p1)] [])) (fun _ k => XS.icmpYes X_92.here hx rfl (pc0 := 103) (pc' := 197) rfl (hb hby d1_103) rfl (flt hc103_16).2.2.2 (by decide) (by decide) k) ?_
        exact K_197 _ X_92 e_92 (by rw [hq_92, own_ns_92, if_neg hc96_15, if_neg hc103_16])
  have K_78 : ∀ (T_78 : State), Stand p l e R1 s m #[(.int p1)] below meth c T_78 [] 0 0 → T_78.heap = h0 → own_ns_0 p1 = own_ns_78 p1 → own_Goes p e below s (Q1 Z p1 h0 n0) R1.cells R1.slots T_78 (mkF m 78 #[.val (.int p1)] []) := by
    intro T_78 X_78 e_78 hq_78
    refine own_step (f' := (mkF m 79 #[.val (.int p1)] [(.int p1)])) (fun _ k => XS.iloadN X_78.here hx rfl (hb hby d1_78) rfl k) ?_
    refine own_step (f' := (mkF m 82 #[.val (.int p1)] [(.int (880 : Int32)), (.int p1)])) (fun _ k => XS.sipush X_78.here hx rfl (hb hby d1_79) k) ?_
    by_cases hc82_17 : p1 < (880 : Int32)
    · refine own_step (f' := (mkF m 92 #[.val (.int p1)] [])) (fun _ k => XS.icmpYes X_78.here hx rfl (pc0 := 82) (pc' := 92) rfl (hb hby d1_82) rfl (tlt hc82_17).1 (by decide) (by decide) k) ?_
      exact K_92 _ X_78 e_78 (by rw [hq_78, own_ns_78, if_pos hc82_17])
    · refine own_step (f' := (mkF m 85 #[.val (.int p1)] [])) (fun _ k => XS.icmpNo X_78.here hx rfl (hb hby d1_82) rfl (flt hc82_17).1 k) ?_
      refine own_step (f' := (mkF m 86 #[.val (.int p1)] [(.int p1)])) (fun _ k => XS.iloadN X_78.here hx rfl (hb hby d1_85) rfl k) ?_
      refine own_step (f' := (mkF m 89 #[.val (.int p1)] [(.int (893 : Int32)), (.int p1)])) (fun _ k => XS.sipush X_78.here hx rfl (hb hby d1_86) k) ?_
      by_cases hc89_18 : (893 : Int32) < p1
      · refine own_step (f' := (mkF m 92 #[.val (.int p1)] [])) (fun _ k => XS.icmpNo X_78.here hx rfl (hb hby d1_89) rfl (tlt hc89_18).2.2.2 k) ?_
        exact K_92 _ X_78 e_78 (by rw [hq_78, own_ns_78, if_neg hc82_17, if_pos hc89_18])
      · refine own_step (f' := (mkF m 197 #[.val (.int p1)] [])) (fun _ k => XS.icmpYes X_78.here hx rfl (pc0 := 89) (pc' := 197) rfl (hb hby d1_89) rfl (flt hc89_18).2.2.2 (by decide) (by decide) k) ?_
        exact K_197 _ X_78 e_78 (by rw [hq_78, own_ns_78, if_neg hc82_17, if_neg hc89_18])
  have K_64 : ∀ (T_64 : State), Stand p l e R1 s m #[(.int p1)] below meth c T_64 [] 0 0 → T_64.heap = h0 → own_ns_0 p1 = own_ns_64 p1 → own_Goes p e below s (Q1 Z p1 h0 n0) R1.cells R1.slots T_64 (mkF m 64 #[.val (.int p1)] []) := by
    intro T_64 X_64 e_64 hq_64
    refine own_step (f' := (mkF m 65 #[.val (.int p1)] [(.int p1)])) (fun _ k => XS.iloadN X_64.here hx rfl (hb hby d1_64) rfl k) ?_
    refine own_step (f' := (mkF m 68 #[.val (.int p1)] [(.int (248 : Int32)), (.int p1)])) (fun _ k => XS.sipush X_64.here hx rfl (hb hby d1_65) k) ?_
    by_cases hc68_19 : p1 < (248 : Int32)
    · refine own_step (f' := (mkF m 78 #[.val (.int p1)] [])) (fun _ k => XS.icmpYes X_64.here hx rfl (pc0 := 68) (pc' := 78) rfl (hb hby d1_68) rfl (tlt hc68_19).1 (by decide) (by decide) k) ?_
      exact K_78 _ X_64 e_64 (by rw [hq_64, own_ns_64, if_pos hc68_19])
    · refine own_step (f' := (mkF m 71 #[.val (.int p1)] [])) (fun _ k => XS.icmpNo X_64.here hx rfl (hb hby d1_68) rfl (flt hc68_19).1 k) ?_
      refine own_step (f' := (mkF m 72 #[.val (.int p1)] [(.int p1)])) (fun _ k => XS.iloadN X_64.here hx rfl (hb hby d1_71) rfl k) ?_
      refine own_step (f' := (mkF m 75 #[.val (.int p1)] [(.int (767 : Int32)), (.int p1)])) (fun _ k => XS.sipush X_64.here hx rfl (hb hby d1_72) k) ?_
      by_cases hc75_20 : (767 : Int32) < p1
      · refine own_step (f' := (mkF m 78 #[.val (.int p1)] [])) (fun _ k => XS.icmpNo X_64.here hx rfl (hb hby d1_75) rfl (tlt hc75_20).2.2.2 k) ?_
        exact K_78 _ X_64 e_64 (by rw [hq_64, own_ns_64, if_neg hc68_19, if_pos hc75_20])
      · refine own_step (f' := (mkF m 197 #[.val (.int p1)] [])) (fun _ k => XS.icmpYes X_64.here hx rfl (pc0 := 75) (pc' := 197) rfl (hb hby d1_75) rfl (flt hc75_20).2.2.2 (by decide) (by decide) k) ?_
        exact K_197 _ X_64 e_64 (by rw [hq_64, own_ns_64, if_neg hc68_19, if_neg hc75_20])
  have K_50 : ∀ (T_50 : State), Stand p l e R1 s m #[(.int p1)] below meth c T_50 [] 0 0 → T_50.heap = h0 → own_ns_0 p1 = own_ns_50 p1 → own_Goes p e below s (Q1 Z p1 h0 n0) R1.cells R1.slots T_50 (mkF m 50 #[.val (.int p1)] []) := by
    intro T_50 X_50 e_50 hq_50
    refine own_step (f' := (mkF m 51 #[.val (.int p1)] [(.int p1)])) (fun _ k => XS.iloadN X_50.here hx rfl (hb hby d1_50) rfl k) ?_
    refine own_step (f' := (mkF m 54 #[.val (.int p1)] [(.int (216 : Int32)), (.int p1)])) (fun _ k => XS.sipush X_50.here hx rfl (hb hby d1_51) k) ?_
    by_cases hc54_21 : p1 < (216 : Int32)
    · refine own_step (f' := (mkF m 64 #[.val (.int p1)] [])) (fun _ k => XS.icmpYes X_50.here hx rfl (pc0 := 54) (pc' := 64) rfl (hb hby d1_54) rfl (tlt hc54_21).1 (by decide) (by decide) k) ?_
      exact K_64 _ X_50 e_50 (by rw [hq_50, own_ns_50, if_pos hc54_21])
    · refine own_step (f' := (mkF m 57 #[.val (.int p1)] [])) (fun _ k => XS.icmpNo X_50.here hx rfl (hb hby d1_54) rfl (flt hc54_21).1 k) ?_
      refine own_step (f' := (mkF m 58 #[.val (.int p1)] [(.int p1)])) (fun _ k => XS.iloadN X_50.here hx rfl (hb hby d1_57) rfl k) ?_
      refine own_step (f' := (mkF m 61 #[.val (.int p1)] [(.int (246 : Int32)), (.int p1)])) (fun _ k => XS.sipush X_50.here hx rfl (hb hby d1_58) k) ?_
      by_cases hc61_22 : (246 : Int32) < p1
      · refine own_step (f' := (mkF m 64 #[.val (.int p1)] [])) (fun _ k => XS.icmpNo X_50.here hx rfl (hb hby d1_61) rfl (tlt hc61_22).2.2.2 k) ?_
        exact K_64 _ X_50 e_50 (by rw [hq_50, own_ns_50, if_neg hc54_21, if_pos hc61_22])
      · refine own_step (f' := (mkF m 197 #[.val (.int p1)] [])) (fun _ k => XS.icmpYes X_50.here hx rfl (pc0 := 61) (pc' := 197) rfl (hb hby d1_61) rfl (flt hc61_22).2.2.2 (by decide) (by decide) k) ?_
        exact K_197 _ X_50 e_50 (by rw [hq_50, own_ns_50, if_neg hc54_21, if_neg hc61_22])
  have K_36 : ∀ (T_36 : State), Stand p l e R1 s m #[(.int p1)] below meth c T_36 [] 0 0 → T_36.heap = h0 → own_ns_0 p1 = own_ns_36 p1 → own_Goes p e below s (Q1 Z p1 h0 n0) R1.cells R1.slots T_36 (mkF m 36 #[.val (.int p1)] []) := by
    intro T_36 X_36 e_36 hq_36
    refine own_step (f' := (mkF m 37 #[.val (.int p1)] [(.int p1)])) (fun _ k => XS.iloadN X_36.here hx rfl (hb hby d1_36) rfl k) ?_
    refine own_step (f' := (mkF m 40 #[.val (.int p1)] [(.int (192 : Int32)), (.int p1)])) (fun _ k => XS.sipush X_36.here hx rfl (hb hby d1_37) k) ?_
    by_cases hc40_23 : p1 < (192 : Int32)
    · refine own_step (f' := (mkF m 50 #[.val (.int p1)] [])) (fun _ k => XS.icmpYes X_36.here hx rfl (pc0 := 40) (pc' := 50) rfl (hb hby d1_40) rfl (tlt hc40_23).1 (by decide) (by decide) k) ?_
      exact K_50 _ X_36 e_36 (by rw [hq_36, own_ns_36, if_pos hc40_23])
    · refine own_step (f' := (mkF m 43 #[.val (.int p1)] [])) (fun _ k => XS.icmpNo X_36.here hx rfl (hb hby d1_40) rfl (flt hc40_23).1 k) ?_
      refine own_step (f' := (mkF m 44 #[.val (.int p1)] [(.int p1)])) (fun _ k => XS.iloadN X_36.here hx rfl (hb hby d1_43) rfl k) ?_
      refine own_step (f' := (mkF m 47 #[.val (.int p1)] [(.int (214 : Int32)), (.int p1)])) (fun _ k => XS.sipush X_36.here hx rfl (hb hby d1_44) k) ?_
      by_cases hc47_24 : (214 : Int32) < p1
      · refine own_step (f' := (mkF m 50 #[.val (.int p1)] [])) (fun _ k => XS.icmpNo X_36.here hx rfl (hb hby d1_47) rfl (tlt hc47_24).2.2.2 k) ?_
        exact K_50 _ X_36 e_36 (by rw [hq_36, own_ns_36, if_neg hc40_23, if_pos hc47_24])
      · refine own_step (f' := (mkF m 197 #[.val (.int p1)] [])) (fun _ k => XS.icmpYes X_36.here hx rfl (pc0 := 47) (pc' := 197) rfl (hb hby d1_47) rfl (flt hc47_24).2.2.2 (by decide) (by decide) k) ?_
        exact K_197 _ X_36 e_36 (by rw [hq_36, own_ns_36, if_neg hc40_23, if_neg hc47_24])
  have K_24 : ∀ (T_24 : State), Stand p l e R1 s m #[(.int p1)] below meth c T_24 [] 0 0 → T_24.heap = h0 → own_ns_0 p1 = own_ns_24 p1 → own_Goes p e below s (Q1 Z p1 h0 n0) R1.cells R1.slots T_24 (mkF m 24 #[.val (.int p1)] []) := by
    intro T_24 X_24 e_24 hq_24
    refine own_step (f' := (mkF m 25 #[.val (.int p1)] [(.int p1)])) (fun _ k => XS.iloadN X_24.here hx rfl (hb hby d1_24) rfl k) ?_
    refine own_step (f' := (mkF m 27 #[.val (.int p1)] [(.int (97 : Int32)), (.int p1)])) (fun _ k => XS.bipush X_24.here hx rfl (hb hby d1_25) k) ?_
    by_cases hc27_25 : p1 < (97 : Int32)
    · refine own_step (f' := (mkF m 36 #[.val (.int p1)] [])) (fun _ k => XS.icmpYes X_24.here hx rfl (pc0 := 27) (pc' := 36) rfl (hb hby d1_27) rfl (tlt hc27_25).1 (by decide) (by decide) k) ?_
      exact K_36 _ X_24 e_24 (by rw [hq_24, own_ns_24, if_pos hc27_25])
    · refine own_step (f' := (mkF m 30 #[.val (.int p1)] [])) (fun _ k => XS.icmpNo X_24.here hx rfl (hb hby d1_27) rfl (flt hc27_25).1 k) ?_
      refine own_step (f' := (mkF m 31 #[.val (.int p1)] [(.int p1)])) (fun _ k => XS.iloadN X_24.here hx rfl (hb hby d1_30) rfl k) ?_
      refine own_step (f' := (mkF m 33 #[.val (.int p1)] [(.int (122 : Int32)), (.int p1)])) (fun _ k => XS.bipush X_24.here hx rfl (hb hby d1_31) k) ?_
      by_cases hc33_26 : (122 : Int32) < p1
      · refine own_step (f' := (mkF m 36 #[.val (.int p1)] [])) (fun _ k => XS.icmpNo X_24.here hx rfl (hb hby d1_33) rfl (tlt hc33_26).2.2.2 k) ?_
        exact K_36 _ X_24 e_24 (by rw [hq_24, own_ns_24, if_neg hc27_25, if_pos hc33_26])
      · refine own_step (f' := (mkF m 197 #[.val (.int p1)] [])) (fun _ k => XS.icmpYes X_24.here hx rfl (pc0 := 33) (pc' := 197) rfl (hb hby d1_33) rfl (flt hc33_26).2.2.2 (by decide) (by decide) k) ?_
        exact K_197 _ X_24 e_24 (by rw [hq_24, own_ns_24, if_neg hc27_25, if_neg hc33_26])
  refine own_step (f' := (mkF m 1 #[.val (.int p1)] [(.int p1)])) (fun _ k => XS.iloadN X0.here hx rfl (hb hby d1_0) rfl k) ?_
  refine own_step (f' := (mkF m 3 #[.val (.int p1)] [(.int (58 : Int32)), (.int p1)])) (fun _ k => XS.bipush X0.here hx rfl (hb hby d1_1) k) ?_
  by_cases hc3_27 : p1 = (58 : Int32)
  · refine own_step (f' := (mkF m 197 #[.val (.int p1)] [])) (fun _ k => XS.icmpYes X0.here hx rfl (pc0 := 3) (pc' := 197) rfl (hb hby d1_3) rfl (teq hc3_27).1 (by decide) (by decide) k) ?_
    exact K_197 _ X0 e0 (by rw [own_ns_0, if_pos hc3_27])
  · refine own_step (f' := (mkF m 6 #[.val (.int p1)] [])) (fun _ k => XS.icmpNo X0.here hx rfl (hb hby d1_3) rfl (feq hc3_27).1 k) ?_
    refine own_step (f' := (mkF m 7 #[.val (.int p1)] [(.int p1)])) (fun _ k => XS.iloadN X0.here hx rfl (hb hby d1_6) rfl k) ?_
    refine own_step (f' := (mkF m 9 #[.val (.int p1)] [(.int (95 : Int32)), (.int p1)])) (fun _ k => XS.bipush X0.here hx rfl (hb hby d1_7) k) ?_
    by_cases hc9_28 : p1 = (95 : Int32)
    · refine own_step (f' := (mkF m 197 #[.val (.int p1)] [])) (fun _ k => XS.icmpYes X0.here hx rfl (pc0 := 9) (pc' := 197) rfl (hb hby d1_9) rfl (teq hc9_28).1 (by decide) (by decide) k) ?_
      exact K_197 _ X0 e0 (by rw [own_ns_0, if_neg hc3_27, if_pos hc9_28])
    · refine own_step (f' := (mkF m 12 #[.val (.int p1)] [])) (fun _ k => XS.icmpNo X0.here hx rfl (hb hby d1_9) rfl (feq hc9_28).1 k) ?_
      refine own_step (f' := (mkF m 13 #[.val (.int p1)] [(.int p1)])) (fun _ k => XS.iloadN X0.here hx rfl (hb hby d1_12) rfl k) ?_
      refine own_step (f' := (mkF m 15 #[.val (.int p1)] [(.int (65 : Int32)), (.int p1)])) (fun _ k => XS.bipush X0.here hx rfl (hb hby d1_13) k) ?_
      by_cases hc15_29 : p1 < (65 : Int32)
      · refine own_step (f' := (mkF m 24 #[.val (.int p1)] [])) (fun _ k => XS.icmpYes X0.here hx rfl (pc0 := 15) (pc' := 24) rfl (hb hby d1_15) rfl (tlt hc15_29).1 (by decide) (by decide) k) ?_
        exact K_24 _ X0 e0 (by rw [own_ns_0, if_neg hc3_27, if_neg hc9_28, if_pos hc15_29])
      · refine own_step (f' := (mkF m 18 #[.val (.int p1)] [])) (fun _ k => XS.icmpNo X0.here hx rfl (hb hby d1_15) rfl (flt hc15_29).1 k) ?_
        refine own_step (f' := (mkF m 19 #[.val (.int p1)] [(.int p1)])) (fun _ k => XS.iloadN X0.here hx rfl (hb hby d1_18) rfl k) ?_
        refine own_step (f' := (mkF m 21 #[.val (.int p1)] [(.int (90 : Int32)), (.int p1)])) (fun _ k => XS.bipush X0.here hx rfl (hb hby d1_19) k) ?_
        by_cases hc21_30 : (90 : Int32) < p1
        · refine own_step (f' := (mkF m 24 #[.val (.int p1)] [])) (fun _ k => XS.icmpNo X0.here hx rfl (hb hby d1_21) rfl (tlt hc21_30).2.2.2 k) ?_
          exact K_24 _ X0 e0 (by rw [own_ns_0, if_neg hc3_27, if_neg hc9_28, if_neg hc15_29, if_pos hc21_30])
        · refine own_step (f' := (mkF m 197 #[.val (.int p1)] [])) (fun _ k => XS.icmpYes X0.here hx rfl (pc0 := 21) (pc' := 197) rfl (hb hby d1_21) rfl (flt hc21_30).2.2.2 (by decide) (by decide) k) ?_
          exact K_197 _ X0 e0 (by rw [own_ns_0, if_neg hc3_27, if_neg hc9_28, if_neg hc15_29, if_neg hc21_30])
theorem own_lit (x : Int32) (n : Int) (k : Int32) (hk : k.toInt = n) : (x < k ↔ x.toInt < n) ∧ (k < x ↔ n < x.toInt) ∧ (x = k ↔ x.toInt = n) := by
  rw [Int32.lt_iff_toInt_lt, Int32.lt_iff_toInt_lt, ← Int32.toInt_inj, hk]
  exact ⟨Iff.rfl, Iff.rfl, Iff.rfl⟩
theorem own_nt_201 (x : Int32) : own_ns_201 x = 0 := rfl
theorem own_nt_197 (x : Int32) : own_ns_197 x = 1 := rfl
theorem own_nt_185 (x : Int32) : own_ns_185 x = if ((65536 ≤ x.toInt ∧ x.toInt ≤ 983039)) then 1 else 0 := by
  obtain ⟨a65536, b65536, c65536⟩ := own_lit x 65536 (65536 : Int32) (by decide)
  obtain ⟨a983039, b983039, c983039⟩ := own_lit x 983039 (983039 : Int32) (by decide)
  unfold own_ns_185
  simp only [a65536, b65536, c65536, a983039, b983039, c983039, own_nt_197, own_nt_201]
  (repeat' split) <;> first | rfl | (exfalso; omega)
theorem own_nt_173 (x : Int32) : own_ns_173 x = if ((65008 ≤ x.toInt ∧ x.toInt ≤ 65533) ∨ (65536 ≤ x.toInt ∧ x.toInt ≤ 983039)) then 1 else 0 := by
  obtain ⟨a65008, b65008, c65008⟩ := own_lit x 65008 (65008 : Int32) (by decide)
  obtain ⟨a65533, b65533, c65533⟩ := own_lit x 65533 (65533 : Int32) (by decide)
  unfold own_ns_173
  simp only [a65008, b65008, c65008, a65533, b65533, c65533, own_nt_185, own_nt_197]
  (repeat' split) <;> first | rfl | (exfalso; omega)
theorem own_nt_161 (x : Int32) : own_ns_161 x = if ((63744 ≤ x.toInt ∧ x.toInt ≤ 64975) ∨ (65008 ≤ x.toInt ∧ x.toInt ≤ 65533) ∨ (65536 ≤ x.toInt ∧ x.toInt ≤ 983039)) then 1 else 0 := by
  obtain ⟨a63744, b63744, c63744⟩ := own_lit x 63744 (63744 : Int32) (by decide)
  obtain ⟨a64975, b64975, c64975⟩ := own_lit x 64975 (64975 : Int32) (by decide)
  unfold own_ns_161
  simp only [a63744, b63744, c63744, a64975, b64975, c64975, own_nt_173, own_nt_197]
  (repeat' split) <;> first | rfl | (exfalso; omega)
theorem own_nt_148 (x : Int32) : own_ns_148 x = if ((12289 ≤ x.toInt ∧ x.toInt ≤ 55295) ∨ (63744 ≤ x.toInt ∧ x.toInt ≤ 64975) ∨ (65008 ≤ x.toInt ∧ x.toInt ≤ 65533) ∨ (65536 ≤ x.toInt ∧ x.toInt ≤ 983039)) then 1 else 0 := by
  obtain ⟨a12289, b12289, c12289⟩ := own_lit x 12289 (12289 : Int32) (by decide)
  obtain ⟨a55295, b55295, c55295⟩ := own_lit x 55295 (55295 : Int32) (by decide)
  unfold own_ns_148
  simp only [a12289, b12289, c12289, a55295, b55295, c55295, own_nt_161, own_nt_197]
  (repeat' split) <;> first | rfl | (exfalso; omega)
theorem own_nt_134 (x : Int32) : own_ns_134 x = if ((11264 ≤ x.toInt ∧ x.toInt ≤ 12271) ∨ (12289 ≤ x.toInt ∧ x.toInt ≤ 55295) ∨ (63744 ≤ x.toInt ∧ x.toInt ≤ 64975) ∨ (65008 ≤ x.toInt ∧ x.toInt ≤ 65533) ∨ (65536 ≤ x.toInt ∧ x.toInt ≤ 983039)) then 1 else 0 := by
  obtain ⟨a11264, b11264, c11264⟩ := own_lit x 11264 (11264 : Int32) (by decide)
  obtain ⟨a12271, b12271, c12271⟩ := own_lit x 12271 (12271 : Int32) (by decide)
  unfold own_ns_134
  simp only [a11264, b11264, c11264, a12271, b12271, c12271, own_nt_148, own_nt_197]
  (repeat' split) <;> first | rfl | (exfalso; omega)
theorem own_nt_120 (x : Int32) : own_ns_120 x = if ((8304 ≤ x.toInt ∧ x.toInt ≤ 8591) ∨ (11264 ≤ x.toInt ∧ x.toInt ≤ 12271) ∨ (12289 ≤ x.toInt ∧ x.toInt ≤ 55295) ∨ (63744 ≤ x.toInt ∧ x.toInt ≤ 64975) ∨ (65008 ≤ x.toInt ∧ x.toInt ≤ 65533) ∨ (65536 ≤ x.toInt ∧ x.toInt ≤ 983039)) then 1 else 0 := by
  obtain ⟨a8304, b8304, c8304⟩ := own_lit x 8304 (8304 : Int32) (by decide)
  obtain ⟨a8591, b8591, c8591⟩ := own_lit x 8591 (8591 : Int32) (by decide)
  unfold own_ns_120
  simp only [a8304, b8304, c8304, a8591, b8591, c8591, own_nt_134, own_nt_197]
  (repeat' split) <;> first | rfl | (exfalso; omega)
theorem own_nt_106 (x : Int32) : own_ns_106 x = if ((8204 ≤ x.toInt ∧ x.toInt ≤ 8205) ∨ (8304 ≤ x.toInt ∧ x.toInt ≤ 8591) ∨ (11264 ≤ x.toInt ∧ x.toInt ≤ 12271) ∨ (12289 ≤ x.toInt ∧ x.toInt ≤ 55295) ∨ (63744 ≤ x.toInt ∧ x.toInt ≤ 64975) ∨ (65008 ≤ x.toInt ∧ x.toInt ≤ 65533) ∨ (65536 ≤ x.toInt ∧ x.toInt ≤ 983039)) then 1 else 0 := by
  obtain ⟨a8204, b8204, c8204⟩ := own_lit x 8204 (8204 : Int32) (by decide)
  obtain ⟨a8205, b8205, c8205⟩ := own_lit x 8205 (8205 : Int32) (by decide)
  unfold own_ns_106
  simp only [a8204, b8204, c8204, a8205, b8205, c8205, own_nt_120, own_nt_197]
  (repeat' split) <;> first | rfl | (exfalso; omega)
theorem own_nt_92 (x : Int32) : own_ns_92 x = if ((895 ≤ x.toInt ∧ x.toInt ≤ 8191) ∨ (8204 ≤ x.toInt ∧ x.toInt ≤ 8205) ∨ (8304 ≤ x.toInt ∧ x.toInt ≤ 8591) ∨ (11264 ≤ x.toInt ∧ x.toInt ≤ 12271) ∨ (12289 ≤ x.toInt ∧ x.toInt ≤ 55295) ∨ (63744 ≤ x.toInt ∧ x.toInt ≤ 64975) ∨ (65008 ≤ x.toInt ∧ x.toInt ≤ 65533) ∨ (65536 ≤ x.toInt ∧ x.toInt ≤ 983039)) then 1 else 0 := by
  obtain ⟨a895, b895, c895⟩ := own_lit x 895 (895 : Int32) (by decide)
  obtain ⟨a8191, b8191, c8191⟩ := own_lit x 8191 (8191 : Int32) (by decide)
  unfold own_ns_92
  simp only [a895, b895, c895, a8191, b8191, c8191, own_nt_106, own_nt_197]
  (repeat' split) <;> first | rfl | (exfalso; omega)
theorem own_nt_78 (x : Int32) : own_ns_78 x = if ((880 ≤ x.toInt ∧ x.toInt ≤ 893) ∨ (895 ≤ x.toInt ∧ x.toInt ≤ 8191) ∨ (8204 ≤ x.toInt ∧ x.toInt ≤ 8205) ∨ (8304 ≤ x.toInt ∧ x.toInt ≤ 8591) ∨ (11264 ≤ x.toInt ∧ x.toInt ≤ 12271) ∨ (12289 ≤ x.toInt ∧ x.toInt ≤ 55295) ∨ (63744 ≤ x.toInt ∧ x.toInt ≤ 64975) ∨ (65008 ≤ x.toInt ∧ x.toInt ≤ 65533) ∨ (65536 ≤ x.toInt ∧ x.toInt ≤ 983039)) then 1 else 0 := by
  obtain ⟨a880, b880, c880⟩ := own_lit x 880 (880 : Int32) (by decide)
  obtain ⟨a893, b893, c893⟩ := own_lit x 893 (893 : Int32) (by decide)
  unfold own_ns_78
  simp only [a880, b880, c880, a893, b893, c893, own_nt_92, own_nt_197]
  (repeat' split) <;> first | rfl | (exfalso; omega)
theorem own_nt_64 (x : Int32) : own_ns_64 x = if ((248 ≤ x.toInt ∧ x.toInt ≤ 767) ∨ (880 ≤ x.toInt ∧ x.toInt ≤ 893) ∨ (895 ≤ x.toInt ∧ x.toInt ≤ 8191) ∨ (8204 ≤ x.toInt ∧ x.toInt ≤ 8205) ∨ (8304 ≤ x.toInt ∧ x.toInt ≤ 8591) ∨ (11264 ≤ x.toInt ∧ x.toInt ≤ 12271) ∨ (12289 ≤ x.toInt ∧ x.toInt ≤ 55295) ∨ (63744 ≤ x.toInt ∧ x.toInt ≤ 64975) ∨ (65008 ≤ x.toInt ∧ x.toInt ≤ 65533) ∨ (65536 ≤ x.toInt ∧ x.toInt ≤ 983039)) then 1 else 0 := by
  obtain ⟨a248, b248, c248⟩ := own_lit x 248 (248 : Int32) (by decide)
  obtain ⟨a767, b767, c767⟩ := own_lit x 767 (767 : Int32) (by decide)
  unfold own_ns_64
  simp only [a248, b248, c248, a767, b767, c767, own_nt_78, own_nt_197]
  (repeat' split) <;> first | rfl | (exfalso; omega)
theorem own_nt_50 (x : Int32) : own_ns_50 x = if ((216 ≤ x.toInt ∧ x.toInt ≤ 246) ∨ (248 ≤ x.toInt ∧ x.toInt ≤ 767) ∨ (880 ≤ x.toInt ∧ x.toInt ≤ 893) ∨ (895 ≤ x.toInt ∧ x.toInt ≤ 8191) ∨ (8204 ≤ x.toInt ∧ x.toInt ≤ 8205) ∨ (8304 ≤ x.toInt ∧ x.toInt ≤ 8591) ∨ (11264 ≤ x.toInt ∧ x.toInt ≤ 12271) ∨ (12289 ≤ x.toInt ∧ x.toInt ≤ 55295) ∨ (63744 ≤ x.toInt ∧ x.toInt ≤ 64975) ∨ (65008 ≤ x.toInt ∧ x.toInt ≤ 65533) ∨ (65536 ≤ x.toInt ∧ x.toInt ≤ 983039)) then 1 else 0 := by
  obtain ⟨a216, b216, c216⟩ := own_lit x 216 (216 : Int32) (by decide)
  obtain ⟨a246, b246, c246⟩ := own_lit x 246 (246 : Int32) (by decide)
  unfold own_ns_50
  simp only [a216, b216, c216, a246, b246, c246, own_nt_64, own_nt_197]
  (repeat' split) <;> first | rfl | (exfalso; omega)
theorem own_nt_36 (x : Int32) : own_ns_36 x = if ((192 ≤ x.toInt ∧ x.toInt ≤ 214) ∨ (216 ≤ x.toInt ∧ x.toInt ≤ 246) ∨ (248 ≤ x.toInt ∧ x.toInt ≤ 767) ∨ (880 ≤ x.toInt ∧ x.toInt ≤ 893) ∨ (895 ≤ x.toInt ∧ x.toInt ≤ 8191) ∨ (8204 ≤ x.toInt ∧ x.toInt ≤ 8205) ∨ (8304 ≤ x.toInt ∧ x.toInt ≤ 8591) ∨ (11264 ≤ x.toInt ∧ x.toInt ≤ 12271) ∨ (12289 ≤ x.toInt ∧ x.toInt ≤ 55295) ∨ (63744 ≤ x.toInt ∧ x.toInt ≤ 64975) ∨ (65008 ≤ x.toInt ∧ x.toInt ≤ 65533) ∨ (65536 ≤ x.toInt ∧ x.toInt ≤ 983039)) then 1 else 0 := by
  obtain ⟨a192, b192, c192⟩ := own_lit x 192 (192 : Int32) (by decide)
  obtain ⟨a214, b214, c214⟩ := own_lit x 214 (214 : Int32) (by decide)
  unfold own_ns_36
  simp only [a192, b192, c192, a214, b214, c214, own_nt_50, own_nt_197]
  (repeat' split) <;> first | rfl | (exfalso; omega)
theorem own_nt_24 (x : Int32) : own_ns_24 x = if ((97 ≤ x.toInt ∧ x.toInt ≤ 122) ∨ (192 ≤ x.toInt ∧ x.toInt ≤ 214) ∨ (216 ≤ x.toInt ∧ x.toInt ≤ 246) ∨ (248 ≤ x.toInt ∧ x.toInt ≤ 767) ∨ (880 ≤ x.toInt ∧ x.toInt ≤ 893) ∨ (895 ≤ x.toInt ∧ x.toInt ≤ 8191) ∨ (8204 ≤ x.toInt ∧ x.toInt ≤ 8205) ∨ (8304 ≤ x.toInt ∧ x.toInt ≤ 8591) ∨ (11264 ≤ x.toInt ∧ x.toInt ≤ 12271) ∨ (12289 ≤ x.toInt ∧ x.toInt ≤ 55295) ∨ (63744 ≤ x.toInt ∧ x.toInt ≤ 64975) ∨ (65008 ≤ x.toInt ∧ x.toInt ≤ 65533) ∨ (65536 ≤ x.toInt ∧ x.toInt ≤ 983039)) then 1 else 0 := by
  obtain ⟨a97, b97, c97⟩ := own_lit x 97 (97 : Int32) (by decide)
  obtain ⟨a122, b122, c122⟩ := own_lit x 122 (122 : Int32) (by decide)
  unfold own_ns_24
  simp only [a97, b97, c97, a122, b122, c122, own_nt_36, own_nt_197]
  (repeat' split) <;> first | rfl | (exfalso; omega)
theorem own_nt_0 (x : Int32) : own_ns_0 x = if ((58 ≤ x.toInt ∧ x.toInt ≤ 58) ∨ (95 ≤ x.toInt ∧ x.toInt ≤ 95) ∨ (65 ≤ x.toInt ∧ x.toInt ≤ 90) ∨ (97 ≤ x.toInt ∧ x.toInt ≤ 122) ∨ (192 ≤ x.toInt ∧ x.toInt ≤ 214) ∨ (216 ≤ x.toInt ∧ x.toInt ≤ 246) ∨ (248 ≤ x.toInt ∧ x.toInt ≤ 767) ∨ (880 ≤ x.toInt ∧ x.toInt ≤ 893) ∨ (895 ≤ x.toInt ∧ x.toInt ≤ 8191) ∨ (8204 ≤ x.toInt ∧ x.toInt ≤ 8205) ∨ (8304 ≤ x.toInt ∧ x.toInt ≤ 8591) ∨ (11264 ≤ x.toInt ∧ x.toInt ≤ 12271) ∨ (12289 ≤ x.toInt ∧ x.toInt ≤ 55295) ∨ (63744 ≤ x.toInt ∧ x.toInt ≤ 64975) ∨ (65008 ≤ x.toInt ∧ x.toInt ≤ 65533) ∨ (65536 ≤ x.toInt ∧ x.toInt ≤ 983039)) then 1 else 0 := by
  obtain ⟨a58, b58, c58⟩ := own_lit x 58 (58 : Int32) (by decide)
  obtain ⟨a65, b65, c65⟩ := own_lit x 65 (65 : Int32) (by decide)
  obtain ⟨a90, b90, c90⟩ := own_lit x 90 (90 : Int32) (by decide)
  obtain ⟨a95, b95, c95⟩ := own_lit x 95 (95 : Int32) (by decide)
  unfold own_ns_0
  simp only [a58, b58, c58, a65, b65, c65, a90, b90, c90, a95, b95, c95, own_nt_24, own_nt_197]
  (repeat' split) <;> first | rfl | (exfalso; omega)
def own_list : List Int64 := [(-2147483648 : Int64), (58 : Int64), (59 : Int64), (65 : Int64), (91 : Int64), (95 : Int64), (96 : Int64), (97 : Int64), (123 : Int64), (192 : Int64), (215 : Int64), (216 : Int64), (247 : Int64), (248 : Int64), (768 : Int64), (880 : Int64), (894 : Int64), (895 : Int64), (8192 : Int64), (8204 : Int64), (8206 : Int64), (8304 : Int64), (8592 : Int64), (11264 : Int64), (12272 : Int64), (12289 : Int64), (55296 : Int64), (63744 : Int64), (64976 : Int64), (65008 : Int64), (65534 : Int64), (65536 : Int64), (983040 : Int64), (2147483648 : Int64)]
def own_seg (i : Int32) : Int64 := own_list.getD i.toNatClampNeg 0
theorem own_map (l : List Int64) : ∀ n : Nat, (l.map Value.long).getD n (.long (0 : Int64)) = .long (l.getD n 0) := by
  induction l with
  | nil => intro n; rfl
  | cons a t ih => intro n; cases n with
    | zero => rfl
    | succ n => exact ih n
theorem own_get (i : Int32) : ([(.long (-2147483648 : Int64)), (.long (58 : Int64)), (.long (59 : Int64)), (.long (65 : Int64)), (.long (91 : Int64)), (.long (95 : Int64)), (.long (96 : Int64)), (.long (97 : Int64)), (.long (123 : Int64)), (.long (192 : Int64)), (.long (215 : Int64)), (.long (216 : Int64)), (.long (247 : Int64)), (.long (248 : Int64)), (.long (768 : Int64)), (.long (880 : Int64)), (.long (894 : Int64)), (.long (895 : Int64)), (.long (8192 : Int64)), (.long (8204 : Int64)), (.long (8206 : Int64)), (.long (8304 : Int64)), (.long (8592 : Int64)), (.long (11264 : Int64)), (.long (12272 : Int64)), (.long (12289 : Int64)), (.long (55296 : Int64)), (.long (63744 : Int64)), (.long (64976 : Int64)), (.long (65008 : Int64)), (.long (65534 : Int64)), (.long (65536 : Int64)), (.long (983040 : Int64)), (.long (2147483648 : Int64))] : List Value).getD i.toNatClampNeg (.long (0 : Int64)) = .long (own_seg i) := own_map own_list _
theorem own_idx (x : Int32) : 0 ≤ ((x &&& (2147483647 : Int32)) % (33 : Int32)).toInt ∧ ((x &&& (2147483647 : Int32)) % (33 : Int32)).toInt < 33 := by
  have h1 := c_mask x 2147483647 31 (by decide) (by decide)
  have h2 := (c_irem (x &&& 2147483647) 33 33 (by decide)).1
  omega
theorem own_in (i : Int32) (h : 0 ≤ i.toInt ∧ i.toInt < 34) : ¬ i < 0 ∧ i < (34 : Int32) := by
  simp only [Int32.lt_iff_toInt_lt]
  have e0 : (0 : Int32).toInt = 0 := by decide
  have e1 : (34 : Int32).toInt = 34 := by decide
  omega
theorem own_succ (i : Int32) (h : 0 ≤ i.toInt ∧ i.toInt < 33) : (i + (1 : Int32)).toInt = i.toInt + 1 := by
  have h1 := c_iadd i 1
  have h2 := rng32 (i + 1)
  have e1 : (1 : Int32).toInt = 1 := by decide
  omega
def own_good (k : Nat) (lo hi : Int64) : Prop := -2147483648 ≤ lo.toInt ∧ lo.toInt < hi.toInt ∧ hi.toInt ≤ 2147483648 ∧ ∀ c : Int32, lo.toInt ≤ c.toInt → c.toInt < hi.toInt → own_ns_0 c = if Int32.ofNat k &&& (1 : Int32) = (1 : Int32) then 1 else 0
theorem own_all : ∀ k : Nat, k < 33 → own_good k (own_list.getD k 0) (own_list.getD (k + 1) 0)
  | 0, _ => by
    have e1 : (-2147483648 : Int64).toInt = -2147483648 := by decide
    have e2 : (58 : Int64).toInt = 58 := by decide
    refine ⟨by show -2147483648 ≤ (-2147483648 : Int64).toInt; omega, by show (-2147483648 : Int64).toInt < (58 : Int64).toInt; omega, by show (58 : Int64).toInt ≤ 2147483648; omega, fun c h1 h2 => ?_⟩
    replace h1 : (-2147483648 : Int64).toInt ≤ c.toInt := h1
    replace h2 : c.toInt < (58 : Int64).toInt := h2
    rw [own_nt_0, if_neg (by omega), if_neg (by decide)]
  | 1, _ => by
    have e1 : (58 : Int64).toInt = 58 := by decide
    have e2 : (59 : Int64).toInt = 59 := by decide
    refine ⟨by show -2147483648 ≤ (58 : Int64).toInt; omega, by show (58 : Int64).toInt < (59 : Int64).toInt; omega, by show (59 : Int64).toInt ≤ 2147483648; omega, fun c h1 h2 => ?_⟩
    replace h1 : (58 : Int64).toInt ≤ c.toInt := h1
    replace h2 : c.toInt < (59 : Int64).toInt := h2
    rw [own_nt_0, if_pos (by omega), if_pos (by decide)]
  | 2, _ => by
    have e1 : (59 : Int64).toInt = 59 := by decide
    have e2 : (65 : Int64).toInt = 65 := by decide
    refine ⟨by show -2147483648 ≤ (59 : Int64).toInt; omega, by show (59 : Int64).toInt < (65 : Int64).toInt; omega, by show (65 : Int64).toInt ≤ 2147483648; omega, fun c h1 h2 => ?_⟩
    replace h1 : (59 : Int64).toInt ≤ c.toInt := h1
    replace h2 : c.toInt < (65 : Int64).toInt := h2
    rw [own_nt_0, if_neg (by omega), if_neg (by decide)]
  | 3, _ => by
    have e1 : (65 : Int64).toInt = 65 := by decide
    have e2 : (91 : Int64).toInt = 91 := by decide
    refine ⟨by show -2147483648 ≤ (65 : Int64).toInt; omega, by show (65 : Int64).toInt < (91 : Int64).toInt; omega, by show (91 : Int64).toInt ≤ 2147483648; omega, fun c h1 h2 => ?_⟩
    replace h1 : (65 : Int64).toInt ≤ c.toInt := h1
    replace h2 : c.toInt < (91 : Int64).toInt := h2
    rw [own_nt_0, if_pos (by omega), if_pos (by decide)]
  | 4, _ => by
    have e1 : (91 : Int64).toInt = 91 := by decide
    have e2 : (95 : Int64).toInt = 95 := by decide
    refine ⟨by show -2147483648 ≤ (91 : Int64).toInt; omega, by show (91 : Int64).toInt < (95 : Int64).toInt; omega, by show (95 : Int64).toInt ≤ 2147483648; omega, fun c h1 h2 => ?_⟩
    replace h1 : (91 : Int64).toInt ≤ c.toInt := h1
    replace h2 : c.toInt < (95 : Int64).toInt := h2
    rw [own_nt_0, if_neg (by omega), if_neg (by decide)]
  | 5, _ => by
    have e1 : (95 : Int64).toInt = 95 := by decide
    have e2 : (96 : Int64).toInt = 96 := by decide
    refine ⟨by show -2147483648 ≤ (95 : Int64).toInt; omega, by show (95 : Int64).toInt < (96 : Int64).toInt; omega, by show (96 : Int64).toInt ≤ 2147483648; omega, fun c h1 h2 => ?_⟩
    replace h1 : (95 : Int64).toInt ≤ c.toInt := h1
    replace h2 : c.toInt < (96 : Int64).toInt := h2
    rw [own_nt_0, if_pos (by omega), if_pos (by decide)]
  | 6, _ => by
    have e1 : (96 : Int64).toInt = 96 := by decide
    have e2 : (97 : Int64).toInt = 97 := by decide
    refine ⟨by show -2147483648 ≤ (96 : Int64).toInt; omega, by show (96 : Int64).toInt < (97 : Int64).toInt; omega, by show (97 : Int64).toInt ≤ 2147483648; omega, fun c h1 h2 => ?_⟩
    replace h1 : (96 : Int64).toInt ≤ c.toInt := h1
    replace h2 : c.toInt < (97 : Int64).toInt := h2
    rw [own_nt_0, if_neg (by omega), if_neg (by decide)]
  | 7, _ => by
    have e1 : (97 : Int64).toInt = 97 := by decide
    have e2 : (123 : Int64).toInt = 123 := by decide
    refine ⟨by show -2147483648 ≤ (97 : Int64).toInt; omega, by show (97 : Int64).toInt < (123 : Int64).toInt; omega, by show (123 : Int64).toInt ≤ 2147483648; omega, fun c h1 h2 => ?_⟩
    replace h1 : (97 : Int64).toInt ≤ c.toInt := h1
    replace h2 : c.toInt < (123 : Int64).toInt := h2
    rw [own_nt_0, if_pos (by omega), if_pos (by decide)]
  | 8, _ => by
    have e1 : (123 : Int64).toInt = 123 := by decide
    have e2 : (192 : Int64).toInt = 192 := by decide
    refine ⟨by show -2147483648 ≤ (123 : Int64).toInt; omega, by show (123 : Int64).toInt < (192 : Int64).toInt; omega, by show (192 : Int64).toInt ≤ 2147483648; omega, fun c h1 h2 => ?_⟩
    replace h1 : (123 : Int64).toInt ≤ c.toInt := h1
    replace h2 : c.toInt < (192 : Int64).toInt := h2
    rw [own_nt_0, if_neg (by omega), if_neg (by decide)]
  | 9, _ => by
    have e1 : (192 : Int64).toInt = 192 := by decide
    have e2 : (215 : Int64).toInt = 215 := by decide
    refine ⟨by show -2147483648 ≤ (192 : Int64).toInt; omega, by show (192 : Int64).toInt < (215 : Int64).toInt; omega, by show (215 : Int64).toInt ≤ 2147483648; omega, fun c h1 h2 => ?_⟩
    replace h1 : (192 : Int64).toInt ≤ c.toInt := h1
    replace h2 : c.toInt < (215 : Int64).toInt := h2
    rw [own_nt_0, if_pos (by omega), if_pos (by decide)]
  | 10, _ => by
    have e1 : (215 : Int64).toInt = 215 := by decide
    have e2 : (216 : Int64).toInt = 216 := by decide
    refine ⟨by show -2147483648 ≤ (215 : Int64).toInt; omega, by show (215 : Int64).toInt < (216 : Int64).toInt; omega, by show (216 : Int64).toInt ≤ 2147483648; omega, fun c h1 h2 => ?_⟩
    replace h1 : (215 : Int64).toInt ≤ c.toInt := h1
    replace h2 : c.toInt < (216 : Int64).toInt := h2
    rw [own_nt_0, if_neg (by omega), if_neg (by decide)]
  | 11, _ => by
    have e1 : (216 : Int64).toInt = 216 := by decide
    have e2 : (247 : Int64).toInt = 247 := by decide
    refine ⟨by show -2147483648 ≤ (216 : Int64).toInt; omega, by show (216 : Int64).toInt < (247 : Int64).toInt; omega, by show (247 : Int64).toInt ≤ 2147483648; omega, fun c h1 h2 => ?_⟩
    replace h1 : (216 : Int64).toInt ≤ c.toInt := h1
    replace h2 : c.toInt < (247 : Int64).toInt := h2
    rw [own_nt_0, if_pos (by omega), if_pos (by decide)]
  | 12, _ => by
    have e1 : (247 : Int64).toInt = 247 := by decide
    have e2 : (248 : Int64).toInt = 248 := by decide
    refine ⟨by show -2147483648 ≤ (247 : Int64).toInt; omega, by show (247 : Int64).toInt < (248 : Int64).toInt; omega, by show (248 : Int64).toInt ≤ 2147483648; omega, fun c h1 h2 => ?_⟩
    replace h1 : (247 : Int64).toInt ≤ c.toInt := h1
    replace h2 : c.toInt < (248 : Int64).toInt := h2
    rw [own_nt_0, if_neg (by omega), if_neg (by decide)]
  | 13, _ => by
    have e1 : (248 : Int64).toInt = 248 := by decide
    have e2 : (768 : Int64).toInt = 768 := by decide
    refine ⟨by show -2147483648 ≤ (248 : Int64).toInt; omega, by show (248 : Int64).toInt < (768 : Int64).toInt; omega, by show (768 : Int64).toInt ≤ 2147483648; omega, fun c h1 h2 => ?_⟩
    replace h1 : (248 : Int64).toInt ≤ c.toInt := h1
    replace h2 : c.toInt < (768 : Int64).toInt := h2
    rw [own_nt_0, if_pos (by omega), if_pos (by decide)]
  | 14, _ => by
    have e1 : (768 : Int64).toInt = 768 := by decide
    have e2 : (880 : Int64).toInt = 880 := by decide
    refine ⟨by show -2147483648 ≤ (768 : Int64).toInt; omega, by show (768 : Int64).toInt < (880 : Int64).toInt; omega, by show (880 : Int64).toInt ≤ 2147483648; omega, fun c h1 h2 => ?_⟩
    replace h1 : (768 : Int64).toInt ≤ c.toInt := h1
    replace h2 : c.toInt < (880 : Int64).toInt := h2
    rw [own_nt_0, if_neg (by omega), if_neg (by decide)]
  | 15, _ => by
    have e1 : (880 : Int64).toInt = 880 := by decide
    have e2 : (894 : Int64).toInt = 894 := by decide
    refine ⟨by show -2147483648 ≤ (880 : Int64).toInt; omega, by show (880 : Int64).toInt < (894 : Int64).toInt; omega, by show (894 : Int64).toInt ≤ 2147483648; omega, fun c h1 h2 => ?_⟩
    replace h1 : (880 : Int64).toInt ≤ c.toInt := h1
    replace h2 : c.toInt < (894 : Int64).toInt := h2
    rw [own_nt_0, if_pos (by omega), if_pos (by decide)]
  | 16, _ => by
    have e1 : (894 : Int64).toInt = 894 := by decide
    have e2 : (895 : Int64).toInt = 895 := by decide
    refine ⟨by show -2147483648 ≤ (894 : Int64).toInt; omega, by show (894 : Int64).toInt < (895 : Int64).toInt; omega, by show (895 : Int64).toInt ≤ 2147483648; omega, fun c h1 h2 => ?_⟩
    replace h1 : (894 : Int64).toInt ≤ c.toInt := h1
    replace h2 : c.toInt < (895 : Int64).toInt := h2
    rw [own_nt_0, if_neg (by omega), if_neg (by decide)]
  | 17, _ => by
    have e1 : (895 : Int64).toInt = 895 := by decide
    have e2 : (8192 : Int64).toInt = 8192 := by decide
    refine ⟨by show -2147483648 ≤ (895 : Int64).toInt; omega, by show (895 : Int64).toInt < (8192 : Int64).toInt; omega, by show (8192 : Int64).toInt ≤ 2147483648; omega, fun c h1 h2 => ?_⟩
    replace h1 : (895 : Int64).toInt ≤ c.toInt := h1
    replace h2 : c.toInt < (8192 : Int64).toInt := h2
    rw [own_nt_0, if_pos (by omega), if_pos (by decide)]
  | 18, _ => by
    have e1 : (8192 : Int64).toInt = 8192 := by decide
    have e2 : (8204 : Int64).toInt = 8204 := by decide
    refine ⟨by show -2147483648 ≤ (8192 : Int64).toInt; omega, by show (8192 : Int64).toInt < (8204 : Int64).toInt; omega, by show (8204 : Int64).toInt ≤ 2147483648; omega, fun c h1 h2 => ?_⟩
    replace h1 : (8192 : Int64).toInt ≤ c.toInt := h1
    replace h2 : c.toInt < (8204 : Int64).toInt := h2
    rw [own_nt_0, if_neg (by omega), if_neg (by decide)]
  | 19, _ => by
    have e1 : (8204 : Int64).toInt = 8204 := by decide
    have e2 : (8206 : Int64).toInt = 8206 := by decide
    refine ⟨by show -2147483648 ≤ (8204 : Int64).toInt; omega, by show (8204 : Int64).toInt < (8206 : Int64).toInt; omega, by show (8206 : Int64).toInt ≤ 2147483648; omega, fun c h1 h2 => ?_⟩
    replace h1 : (8204 : Int64).toInt ≤ c.toInt := h1
    replace h2 : c.toInt < (8206 : Int64).toInt := h2
    rw [own_nt_0, if_pos (by omega), if_pos (by decide)]
  | 20, _ => by
    have e1 : (8206 : Int64).toInt = 8206 := by decide
    have e2 : (8304 : Int64).toInt = 8304 := by decide
    refine ⟨by show -2147483648 ≤ (8206 : Int64).toInt; omega, by show (8206 : Int64).toInt < (8304 : Int64).toInt; omega, by show (8304 : Int64).toInt ≤ 2147483648; omega, fun c h1 h2 => ?_⟩
    replace h1 : (8206 : Int64).toInt ≤ c.toInt := h1
    replace h2 : c.toInt < (8304 : Int64).toInt := h2
    rw [own_nt_0, if_neg (by omega), if_neg (by decide)]
  | 21, _ => by
    have e1 : (8304 : Int64).toInt = 8304 := by decide
    have e2 : (8592 : Int64).toInt = 8592 := by decide
    refine ⟨by show -2147483648 ≤ (8304 : Int64).toInt; omega, by show (8304 : Int64).toInt < (8592 : Int64).toInt; omega, by show (8592 : Int64).toInt ≤ 2147483648; omega, fun c h1 h2 => ?_⟩
    replace h1 : (8304 : Int64).toInt ≤ c.toInt := h1
    replace h2 : c.toInt < (8592 : Int64).toInt := h2
    rw [own_nt_0, if_pos (by omega), if_pos (by decide)]
  | 22, _ => by
    have e1 : (8592 : Int64).toInt = 8592 := by decide
    have e2 : (11264 : Int64).toInt = 11264 := by decide
    refine ⟨by show -2147483648 ≤ (8592 : Int64).toInt; omega, by show (8592 : Int64).toInt < (11264 : Int64).toInt; omega, by show (11264 : Int64).toInt ≤ 2147483648; omega, fun c h1 h2 => ?_⟩
    replace h1 : (8592 : Int64).toInt ≤ c.toInt := h1
    replace h2 : c.toInt < (11264 : Int64).toInt := h2
    rw [own_nt_0, if_neg (by omega), if_neg (by decide)]
  | 23, _ => by
    have e1 : (11264 : Int64).toInt = 11264 := by decide
    have e2 : (12272 : Int64).toInt = 12272 := by decide
    refine ⟨by show -2147483648 ≤ (11264 : Int64).toInt; omega, by show (11264 : Int64).toInt < (12272 : Int64).toInt; omega, by show (12272 : Int64).toInt ≤ 2147483648; omega, fun c h1 h2 => ?_⟩
    replace h1 : (11264 : Int64).toInt ≤ c.toInt := h1
    replace h2 : c.toInt < (12272 : Int64).toInt := h2
    rw [own_nt_0, if_pos (by omega), if_pos (by decide)]
  | 24, _ => by
    have e1 : (12272 : Int64).toInt = 12272 := by decide
    have e2 : (12289 : Int64).toInt = 12289 := by decide
    refine ⟨by show -2147483648 ≤ (12272 : Int64).toInt; omega, by show (12272 : Int64).toInt < (12289 : Int64).toInt; omega, by show (12289 : Int64).toInt ≤ 2147483648; omega, fun c h1 h2 => ?_⟩
    replace h1 : (12272 : Int64).toInt ≤ c.toInt := h1
    replace h2 : c.toInt < (12289 : Int64).toInt := h2
    rw [own_nt_0, if_neg (by omega), if_neg (by decide)]
  | 25, _ => by
    have e1 : (12289 : Int64).toInt = 12289 := by decide
    have e2 : (55296 : Int64).toInt = 55296 := by decide
    refine ⟨by show -2147483648 ≤ (12289 : Int64).toInt; omega, by show (12289 : Int64).toInt < (55296 : Int64).toInt; omega, by show (55296 : Int64).toInt ≤ 2147483648; omega, fun c h1 h2 => ?_⟩
    replace h1 : (12289 : Int64).toInt ≤ c.toInt := h1
    replace h2 : c.toInt < (55296 : Int64).toInt := h2
    rw [own_nt_0, if_pos (by omega), if_pos (by decide)]
  | 26, _ => by
    have e1 : (55296 : Int64).toInt = 55296 := by decide
    have e2 : (63744 : Int64).toInt = 63744 := by decide
    refine ⟨by show -2147483648 ≤ (55296 : Int64).toInt; omega, by show (55296 : Int64).toInt < (63744 : Int64).toInt; omega, by show (63744 : Int64).toInt ≤ 2147483648; omega, fun c h1 h2 => ?_⟩
    replace h1 : (55296 : Int64).toInt ≤ c.toInt := h1
    replace h2 : c.toInt < (63744 : Int64).toInt := h2
    rw [own_nt_0, if_neg (by omega), if_neg (by decide)]
  | 27, _ => by
    have e1 : (63744 : Int64).toInt = 63744 := by decide
    have e2 : (64976 : Int64).toInt = 64976 := by decide
    refine ⟨by show -2147483648 ≤ (63744 : Int64).toInt; omega, by show (63744 : Int64).toInt < (64976 : Int64).toInt; omega, by show (64976 : Int64).toInt ≤ 2147483648; omega, fun c h1 h2 => ?_⟩
    replace h1 : (63744 : Int64).toInt ≤ c.toInt := h1
    replace h2 : c.toInt < (64976 : Int64).toInt := h2
    rw [own_nt_0, if_pos (by omega), if_pos (by decide)]
  | 28, _ => by
    have e1 : (64976 : Int64).toInt = 64976 := by decide
    have e2 : (65008 : Int64).toInt = 65008 := by decide
    refine ⟨by show -2147483648 ≤ (64976 : Int64).toInt; omega, by show (64976 : Int64).toInt < (65008 : Int64).toInt; omega, by show (65008 : Int64).toInt ≤ 2147483648; omega, fun c h1 h2 => ?_⟩
    replace h1 : (64976 : Int64).toInt ≤ c.toInt := h1
    replace h2 : c.toInt < (65008 : Int64).toInt := h2
    rw [own_nt_0, if_neg (by omega), if_neg (by decide)]
  | 29, _ => by
    have e1 : (65008 : Int64).toInt = 65008 := by decide
    have e2 : (65534 : Int64).toInt = 65534 := by decide
    refine ⟨by show -2147483648 ≤ (65008 : Int64).toInt; omega, by show (65008 : Int64).toInt < (65534 : Int64).toInt; omega, by show (65534 : Int64).toInt ≤ 2147483648; omega, fun c h1 h2 => ?_⟩
    replace h1 : (65008 : Int64).toInt ≤ c.toInt := h1
    replace h2 : c.toInt < (65534 : Int64).toInt := h2
    rw [own_nt_0, if_pos (by omega), if_pos (by decide)]
  | 30, _ => by
    have e1 : (65534 : Int64).toInt = 65534 := by decide
    have e2 : (65536 : Int64).toInt = 65536 := by decide
    refine ⟨by show -2147483648 ≤ (65534 : Int64).toInt; omega, by show (65534 : Int64).toInt < (65536 : Int64).toInt; omega, by show (65536 : Int64).toInt ≤ 2147483648; omega, fun c h1 h2 => ?_⟩
    replace h1 : (65534 : Int64).toInt ≤ c.toInt := h1
    replace h2 : c.toInt < (65536 : Int64).toInt := h2
    rw [own_nt_0, if_neg (by omega), if_neg (by decide)]
  | 31, _ => by
    have e1 : (65536 : Int64).toInt = 65536 := by decide
    have e2 : (983040 : Int64).toInt = 983040 := by decide
    refine ⟨by show -2147483648 ≤ (65536 : Int64).toInt; omega, by show (65536 : Int64).toInt < (983040 : Int64).toInt; omega, by show (983040 : Int64).toInt ≤ 2147483648; omega, fun c h1 h2 => ?_⟩
    replace h1 : (65536 : Int64).toInt ≤ c.toInt := h1
    replace h2 : c.toInt < (983040 : Int64).toInt := h2
    rw [own_nt_0, if_pos (by omega), if_pos (by decide)]
  | 32, _ => by
    have e1 : (983040 : Int64).toInt = 983040 := by decide
    have e2 : (2147483648 : Int64).toInt = 2147483648 := by decide
    refine ⟨by show -2147483648 ≤ (983040 : Int64).toInt; omega, by show (983040 : Int64).toInt < (2147483648 : Int64).toInt; omega, by show (2147483648 : Int64).toInt ≤ 2147483648; omega, fun c h1 h2 => ?_⟩
    replace h1 : (983040 : Int64).toInt ≤ c.toInt := h1
    replace h2 : c.toInt < (2147483648 : Int64).toInt := h2
    rw [own_nt_0, if_neg (by omega), if_neg (by decide)]
  | n + 33, h => absurd h (by omega)
theorem own_key (i : Int32) (h : 0 ≤ i.toInt ∧ i.toInt < 33) : -2147483648 ≤ (own_seg i).toInt ∧ (own_seg i).toInt < (own_seg (i + (1 : Int32))).toInt ∧ (own_seg (i + (1 : Int32))).toInt ≤ 2147483648 ∧
    ∀ c : Int32, (own_seg i).toInt ≤ c.toInt → c.toInt < (own_seg (i + (1 : Int32))).toInt → own_ns_0 c = if i &&& (1 : Int32) = (1 : Int32) then 1 else 0 := by
  obtain ⟨k, hk⟩ : ∃ k : Nat, i.toInt = k := ⟨i.toInt.toNat, by omega⟩
  have hk2 : k < 33 := by omega
  have hx : i = Int32.ofNat k := by
    apply Int32.toInt_inj.mp
    rw [hk, Int32.toInt_ofNat_of_lt (by omega)]
  have h1 : i.toNatClampNeg = k := by
    have := nat_of (j := i) (by rw [Int32.lt_iff_toInt_lt]; have e0 : (0 : Int32).toInt = 0 := by decide
                                omega)
    omega
  have h3 := own_succ i h
  have h2 : (i + (1 : Int32)).toNatClampNeg = k + 1 := by
    have := nat_of (j := i + (1 : Int32)) (by rw [Int32.lt_iff_toInt_lt]; have e0 : (0 : Int32).toInt = 0 := by decide
                                              omega)
    omega
  have := own_all k hk2
  unfold own_seg
  rw [h1, h2, hx]
  exact this
theorem own_nz (i : Int32) (h : 0 ≤ i.toInt ∧ i.toInt < 33) : (own_seg (i + (1 : Int32))) - (own_seg i) ≠ 0 := fun q => by
  obtain ⟨h1, h2, h3, -⟩ := own_key i h
  have h4 := c_lsub (own_seg (i + (1 : Int32))) (own_seg i)
  rw [q] at h4
  have e0 : (0 : Int64).toInt = 0 := by decide
  omega
theorem own_fin (i v : Int32) (off : Int64) (h : 0 ≤ i.toInt ∧ i.toInt < 33) (hv : v = if i &&& (1 : Int32) = (1 : Int32) then 1 else 0) :
    own_ns_0 (own_seg i).toInt32 = v ∧ own_ns_0 ((own_seg (i + (1 : Int32))) - (1 : Int64)).toInt32 = v ∧ own_ns_0 ((own_seg i) + (off &&& (9223372036854775807 : Int64)) % ((own_seg (i + (1 : Int32))) - (own_seg i))).toInt32 = v := by
  obtain ⟨h1, h2, h3, h4⟩ := own_key i h
  subst hv
  have e1 : (1 : Int64).toInt = 1 := by decide
  have n : ∀ x : Int64, (own_seg i).toInt ≤ x.toInt → x.toInt < (own_seg (i + (1 : Int32))).toInt → own_ns_0 x.toInt32 = if i &&& (1 : Int32) = (1 : Int32) then 1 else 0 := fun x g1 g2 => by
    have g3 := c_l2i x
    have g4 := rng32 x.toInt32
    have g5 : x.toInt32.toInt = x.toInt := by omega
    exact h4 _ (by omega) (by omega)
  refine ⟨n _ (by omega) (by omega), n _ ?_ ?_, n _ ?_ ?_⟩
  · have g1 := c_lsub (own_seg (i + (1 : Int32))) 1
    have g2 := rng64 ((own_seg (i + (1 : Int32))) - (1 : Int64))
    omega
  · have g1 := c_lsub (own_seg (i + (1 : Int32))) 1
    have g2 := rng64 ((own_seg (i + (1 : Int32))) - (1 : Int64))
    omega
  all_goals
    have g1 := c_lsub (own_seg (i + (1 : Int32))) (own_seg i)
    have g2 := rng64 ((own_seg (i + (1 : Int32))) - (own_seg i))
    have g3 : ((own_seg (i + (1 : Int32))) - (own_seg i)).toInt = (own_seg (i + (1 : Int32))).toInt - (own_seg i).toInt := by omega
    have g4 := c_maskL off 9223372036854775807 63 (by decide) (by decide)
    have g5 : ((off &&& (9223372036854775807 : Int64)) % ((own_seg (i + (1 : Int32))) - (own_seg i))).toInt = (off &&& (9223372036854775807 : Int64)).toInt % ((own_seg (i + (1 : Int32))) - (own_seg i)).toInt := by
      rw [Int64.toInt_mod]; exact Int.tmod_eq_emod_of_nonneg (by omega)
    have g6 := Int.emod_nonneg (off &&& (9223372036854775807 : Int64)).toInt (b := ((own_seg (i + (1 : Int32))) - (own_seg i)).toInt) (by omega)
    have g7 := Int.emod_lt_of_pos (off &&& (9223372036854775807 : Int64)).toInt (b := ((own_seg (i + (1 : Int32))) - (own_seg i)).toInt) (by omega)
    rw [← g5] at g6 g7
    have g8 := c_ladd (own_seg i) ((off &&& (9223372036854775807 : Int64)) % ((own_seg (i + (1 : Int32))) - (own_seg i)))
    have g9 := rng64 ((own_seg i) + (off &&& (9223372036854775807 : Int64)) % ((own_seg (i + (1 : Int32))) - (own_seg i)))
    omega
theorem pd_0 : parseMethodDescriptor "(I)Z" = some ⟨[.int], some .boolean⟩ := by decide +kernel
theorem pn_1 : plainName "com/example/valbonne/valbonne/schema/XmlCharsIsNameStartCharPinLaw" = true := by first | (simp [plainName, overriddenIn]; done) | decide +kernel
theorem ef_0 (m : MethodId) (x0 : Int32) (x1 : Int64) : entryFrame m #[(.int x0), (.long x1)] maxLocals = mkF m 0 #[.val (.int x0), .val (.long x1), .second, .unset, .unset, .unset, .unset, .unset, .unset, .unset, .unset, .unset, .unset, .unset, .unset, .unset, .unset] [] := by first | (simp [entryFrame, mkF, argsToLocals, Value.category, maxLocals]; done) | rfl
def Q0 (Z : State) (i1 : Int32) (i2 : Int64) (h0 : Heap) (n0 : Nat) (v : Option Value) (h : Heap) (L : List Loc) : Prop := v = some (.int 1) ∧ Fr n0 L
set_option maxRecDepth 65536 in
set_option maxHeartbeats 40000000 in
theorem rm0 (l : Launch) (Z : State) (a0 : Array Value) (hw : ∀ d ∈ tables_1, d.before a0 Z = true) (ws : List Jvm.Cond) (i1 : Int32) (i2 : Int64) (h0 : Heap) (n0 : Nat) (Z0 : n0 ≤ h0.size)  :
    MetFree l x (head1 (Jvm.Cond.code x code maxLocals ret :: ws) room_1) (fun a U => a = #[(.int i1), (.long i2)] ∧ Z.Warmed39 U.vm ∧ U.heap = h0) (fun _ _ _ _ _ => True) (fun _ U o U' => ∃ v L, o = .returned v ∧ Q0 Z i1 i2 h0 n0 v U'.heap L ∧ FrameEnd U o U' L room_1.cells room_1.slots) := by
  refine MetFree.of_bodySF (plainFor_of_name pn_1) hisR ?_
  intro p e s m args below meth c s₁ Bd hml0 hP hK
  obtain ⟨rfl, hZ, hh⟩ := hP
  have hx := Bd.exec
  have hby := Bd.bytes
  have hlk : meth.locks = false := BodyLoose.notSynchronized Bd
  have hml : c.maxLocals = 17 := hml0
  have hown : s.vm.findClass "com/example/valbonne/valbonne/schema/XmlCharsIsNameStartCharPinLaw" = some m.cls := findClass_of_methodNamed Bd.named
  have hnm := (name_of_methodNamed Bd.named Bd.method).1
  have X0 : Stand p l e room_1 s m #[(.int i1), (.long i2)] below meth c s₁ [] 0 0 := Stand.of_body Bd
  have e0 : s₁.heap = h0 := by rw [← hh, Bd.state]; rfl
  have N0 := Fr.nil n0
  show own_Goes p e below s (Q0 Z i1 i2 h0 n0) room_1.cells room_1.slots s₁ (entryFrame m #[(.int i1), (.long i2)] maxLocals)
  rw [ef_0 m i1 i2]
  refine own_step (f' := (mkF m 2 #[.val (.int i1), .val (.long i2), .second, .unset, .unset, .unset, .unset, .unset, .unset, .unset, .unset, .unset, .unset, .unset, .unset, .unset, .unset] [(.int (34 : Int32))])) (fun _ k => XS.bipush X0.here hx rfl (hb hby at_0) k) ?_
  obtain ⟨T1, h1, k1, X1, e1, E1, A1, st1⟩ := newP X0 hx hZ (hw _ (List.mem_of_getElem? (i := 0) rfl)) e0 (g := (mkF m 2 #[.val (.int i1), .val (.long i2), .second, .unset, .unset, .unset, .unset, .unset, .unset, .unset, .unset, .unset, .unset, .unset, .unset, .unset, .unset] [(.int (34 : Int32))])) rfl (hb hby at_2) rfl (by decide) (cap := 34) (by decide) (by decide) (by decide) (by decide)
  obtain ⟨b1, g1⟩ : ∃ z, z = h0.size := ⟨_, rfl⟩
  rw [← g1] at A1 st1
  have g_b1 : n0 ≤ b1 := Nat.le_trans Z0 (Nat.le_of_eq g1.symm)
  have V_b1 : Arv Z h1 b1 k1 .long (34 : Int32) [(.long (0 : Int64)), (.long (0 : Int64)), (.long (0 : Int64)), (.long (0 : Int64)), (.long (0 : Int64)), (.long (0 : Int64)), (.long (0 : Int64)), (.long (0 : Int64)), (.long (0 : Int64)), (.long (0 : Int64)), (.long (0 : Int64)), (.long (0 : Int64)), (.long (0 : Int64)), (.long (0 : Int64)), (.long (0 : Int64)), (.long (0 : Int64)), (.long (0 : Int64)), (.long (0 : Int64)), (.long (0 : Int64)), (.long (0 : Int64)), (.long (0 : Int64)), (.long (0 : Int64)), (.long (0 : Int64)), (.long (0 : Int64)), (.long (0 : Int64)), (.long (0 : Int64)), (.long (0 : Int64)), (.long (0 : Int64)), (.long (0 : Int64)), (.long (0 : Int64)), (.long (0 : Int64)), (.long (0 : Int64)), (.long (0 : Int64)), (.long (0 : Int64))] (.long (0 : Int64)) := (Arv.new A1 (by decide)).pad (pad_rep [] (.long (0 : Int64)) 34)
  refine own_step (f' := (mkF m 4 #[.val (.int i1), .val (.long i2), .second, .unset, .unset, .unset, .unset, .unset, .unset, .unset, .unset, .unset, .unset, .unset, .unset, .unset, .unset] [(.ref b1)])) st1 ?_
  refine own_step (f' := (mkF m 5 #[.val (.int i1), .val (.long i2), .second, .unset, .unset, .unset, .unset, .unset, .unset, .unset, .unset, .unset, .unset, .unset, .unset, .unset, .unset] [(.ref b1), (.ref b1)])) (fun _ k => XS.dup X1.here hx rfl (hb hby at_4) rfl rfl k) ?_
  refine own_step (f' := (mkF m 6 #[.val (.int i1), .val (.long i2), .second, .unset, .unset, .unset, .unset, .unset, .unset, .unset, .unset, .unset, .unset, .unset, .unset, .unset, .unset] [(.int (0 : Int32)), (.ref b1), (.ref b1)])) (fun _ k => XS.iconst X1.here hx rfl (hb hby at_5) k) ?_
  refine own_step (f' := (mkF m 9 #[.val (.int i1), .val (.long i2), .second, .unset, .unset, .unset, .unset, .unset, .unset, .unset, .unset, .unset, .unset, .unset, .unset, .unset, .unset] [(.long (-2147483648 : Int64)), (.int (0 : Int32)), (.ref b1), (.ref b1)])) (fun _ k => X1.ldc2Long hx hown (mvT hZ (hw _ (List.mem_of_getElem? (i := 1) rfl))) (g := (mkF m 6 #[.val (.int i1), .val (.long i2), .second, .unset, .unset, .unset, .unset, .unset, .unset, .unset, .unset, .unset, .unset, .unset, .unset, .unset, .unset] [(.int (0 : Int32)), (.ref b1), (.ref b1)])) rfl (hb hby at_6) _ k) ?_
  obtain ⟨cl2, Ar2, qa2, Sa2, Na2, Ha2, Ga2⟩ := id (V_b1)
  have hin3 : ¬ ((0 : Int32) < 0 ∨ cl2.slots.size ≤ ((0 : Int32)).toNatClampNeg) := inb_of Sa2 ⟨by decide, by decide⟩
  obtain ⟨T3, h3, X3, e3, W3, st3⟩ := stJ X1 hx hZ e1 Ar2 (j := (0 : Int32)) hin3 (g := (mkF m 9 #[.val (.int i1), .val (.long i2), .second, .unset, .unset, .unset, .unset, .unset, .unset, .unset, .unset, .unset, .unset, .unset, .unset, .unset, .unset] [(.long (-2147483648 : Int64)), (.int (0 : Int32)), (.ref b1), (.ref b1)])) rfl rfl (hb hby at_9)
  have V3 : Arv Z h3 b1 k1 .long (34 : Int32) [(.long (-2147483648 : Int64)), (.long (0 : Int64)), (.long (0 : Int64)), (.long (0 : Int64)), (.long (0 : Int64)), (.long (0 : Int64)), (.long (0 : Int64)), (.long (0 : Int64)), (.long (0 : Int64)), (.long (0 : Int64)), (.long (0 : Int64)), (.long (0 : Int64)), (.long (0 : Int64)), (.long (0 : Int64)), (.long (0 : Int64)), (.long (0 : Int64)), (.long (0 : Int64)), (.long (0 : Int64)), (.long (0 : Int64)), (.long (0 : Int64)), (.long (0 : Int64)), (.long (0 : Int64)), (.long (0 : Int64)), (.long (0 : Int64)), (.long (0 : Int64)), (.long (0 : Int64)), (.long (0 : Int64)), (.long (0 : Int64)), (.long (0 : Int64)), (.long (0 : Int64)), (.long (0 : Int64)), (.long (0 : Int64)), (.long (0 : Int64)), (.long (0 : Int64))] (.long (0 : Int64)) := Arv.set Ar2 qa2 Sa2 Na2 Ha2 Ga2 rfl W3 0 rfl (Nat.le_of_ble_eq_true rfl)
  obtain ⟨Lo3, X3, N3⟩ : ∃ K, Stand p l e room_1 s m #[(.int i1), (.long i2)] below meth c T3 K 1 34 ∧ Fr n0 K := ⟨_, X3, (Fr.snoc X3 N0 g_b1)⟩
  refine own_step (f' := (mkF m 10 #[.val (.int i1), .val (.long i2), .second, .unset, .unset, .unset, .unset, .unset, .unset, .unset, .unset, .unset, .unset, .unset, .unset, .unset, .unset] [(.ref b1)])) st3 ?_
  refine own_step (f' := (mkF m 11 #[.val (.int i1), .val (.long i2), .second, .unset, .unset, .unset, .unset, .unset, .unset, .unset, .unset, .unset, .unset, .unset, .unset, .unset, .unset] [(.ref b1), (.ref b1)])) (fun _ k => XS.dup X3.here hx rfl (hb hby at_10) rfl rfl k) ?_
  refine own_step (f' := (mkF m 12 #[.val (.int i1), .val (.long i2), .second, .unset, .unset, .unset, .unset, .unset, .unset, .unset, .unset, .unset, .unset, .unset, .unset, .unset, .unset] [(.int (1 : Int32)), (.ref b1), (.ref b1)])) (fun _ k => XS.iconst X3.here hx rfl (hb hby at_11) k) ?_
  refine own_step (f' := (mkF m 15 #[.val (.int i1), .val (.long i2), .second, .unset, .unset, .unset, .unset, .unset, .unset, .unset, .unset, .unset, .unset, .unset, .unset, .unset, .unset] [(.long (58 : Int64)), (.int (1 : Int32)), (.ref b1), (.ref b1)])) (fun _ k => X3.ldc2Long hx hown (mvT hZ (hw _ (List.mem_of_getElem? (i := 2) rfl))) (g := (mkF m 12 #[.val (.int i1), .val (.long i2), .second, .unset, .unset, .unset, .unset, .unset, .unset, .unset, .unset, .unset, .unset, .unset, .unset, .unset, .unset] [(.int (1 : Int32)), (.ref b1), (.ref b1)])) rfl (hb hby at_12) _ k) ?_
  obtain ⟨cl4, Ar4, qa4, Sa4, Na4, Ha4, Ga4⟩ := id (V3)
  have hin5 : ¬ ((1 : Int32) < 0 ∨ cl4.slots.size ≤ ((1 : Int32)).toNatClampNeg) := inb_of Sa4 ⟨by decide, by decide⟩
  obtain ⟨T5, h5, X5, e5, W5, st5⟩ := stJ X3 hx hZ e3 Ar4 (j := (1 : Int32)) hin5 (g := (mkF m 15 #[.val (.int i1), .val (.long i2), .second, .unset, .unset, .unset, .unset, .unset, .unset, .unset, .unset, .unset, .unset, .unset, .unset, .unset, .unset] [(.long (58 : Int64)), (.int (1 : Int32)), (.ref b1), (.ref b1)])) rfl rfl (hb hby at_15)
  have V5 : Arv Z h5 b1 k1 .long (34 : Int32) [(.long (-2147483648 : Int64)), (.long (58 : Int64)), (.long (0 : Int64)), (.long (0 : Int64)), (.long (0 : Int64)), (.long (0 : Int64)), (.long (0 : Int64)), (.long (0 : Int64)), (.long (0 : Int64)), (.long (0 : Int64)), (.long (0 : Int64)), (.long (0 : Int64)), (.long (0 : Int64)), (.long (0 : Int64)), (.long (0 : Int64)), (.long (0 : Int64)), (.long (0 : Int64)), (.long (0 : Int64)), (.long (0 : Int64)), (.long (0 : Int64)), (.long (0 : Int64)), (.long (0 : Int64)), (.long (0 : Int64)), (.long (0 : Int64)), (.long (0 : Int64)), (.long (0 : Int64)), (.long (0 : Int64)), (.long (0 : Int64)), (.long (0 : Int64)), (.long (0 : Int64)), (.long (0 : Int64)), (.long (0 : Int64)), (.long (0 : Int64)), (.long (0 : Int64))] (.long (0 : Int64)) := Arv.set Ar4 qa4 Sa4 Na4 Ha4 Ga4 rfl W5 1 rfl (Nat.le_of_ble_eq_true rfl)
  obtain ⟨Lo5, X5, N5⟩ : ∃ K, Stand p l e room_1 s m #[(.int i1), (.long i2)] below meth c T5 K 1 34 ∧ Fr n0 K := ⟨_, X5, (Fr.snoc X5 N3 g_b1)⟩
  refine own_step (f' := (mkF m 16 #[.val (.int i1), .val (.long i2), .second, .unset, .unset, .unset, .unset, .unset, .unset, .unset, .unset, .unset, .unset, .unset, .unset, .unset, .unset] [(.ref b1)])) st5 ?_
  refine own_step (f' := (mkF m 17 #[.val (.int i1), .val (.long i2), .second, .unset, .unset, .unset, .unset, .unset, .unset, .unset, .unset, .unset, .unset, .unset, .unset, .unset, .unset] [(.ref b1), (.ref b1)])) (fun _ k => XS.dup X5.here hx rfl (hb hby at_16) rfl rfl k) ?_
  refine own_step (f' := (mkF m 18 #[.val (.int i1), .val (.long i2), .second, .unset, .unset, .unset, .unset, .unset, .unset, .unset, .unset, .unset, .unset, .unset, .unset, .unset, .unset] [(.int (2 : Int32)), (.ref b1), (.ref b1)])) (fun _ k => XS.iconst X5.here hx rfl (hb hby at_17) k) ?_
  refine own_step (f' := (mkF m 21 #[.val (.int i1), .val (.long i2), .second, .unset, .unset, .unset, .unset, .unset, .unset, .unset, .unset, .unset, .unset, .unset, .unset, .unset, .unset] [(.long (59 : Int64)), (.int (2 : Int32)), (.ref b1), (.ref b1)])) (fun _ k => X5.ldc2Long hx hown (mvT hZ (hw _ (List.mem_of_getElem? (i := 3) rfl))) (g := (mkF m 18 #[.val (.int i1), .val (.long i2), .second, .unset, .unset, .unset, .unset, .unset, .unset, .unset, .unset, .unset, .unset, .unset, .unset, .unset, .unset] [(.int (2 : Int32)), (.ref b1), (.ref b1)])) rfl (hb hby at_18) _ k) ?_
  obtain ⟨cl6, Ar6, qa6, Sa6, Na6, Ha6, Ga6⟩ := id (V5)
  have hin7 : ¬ ((2 : Int32) < 0 ∨ cl6.slots.size ≤ ((2 : Int32)).toNatClampNeg) := inb_of Sa6 ⟨by decide, by decide⟩
  obtain ⟨T7, h7, X7, e7, W7, st7⟩ := stJ X5 hx hZ e5 Ar6 (j := (2 : Int32)) hin7 (g := (mkF m 21 #[.val (.int i1), .val (.long i2), .second, .unset, .unset, .unset, .unset, .unset, .unset, .unset, .unset, .unset, .unset, .unset, .unset, .unset, .unset] [(.long (59 : Int64)), (.int (2 : Int32)), (.ref b1), (.ref b1)])) rfl rfl (hb hby at_21)
  have V7 : Arv Z h7 b1 k1 .long (34 : Int32) [(.long (-2147483648 : Int64)), (.long (58 : Int64)), (.long (59 : Int64)), (.long (0 : Int64)), (.long (0 : Int64)), (.long (0 : Int64)), (.long (0 : Int64)), (.long (0 : Int64)), (.long (0 : Int64)), (.long (0 : Int64)), (.long (0 : Int64)), (.long (0 : Int64)), (.long (0 : Int64)), (.long (0 : Int64)), (.long (0 : Int64)), (.long (0 : Int64)), (.long (0 : Int64)), (.long (0 : Int64)), (.long (0 : Int64)), (.long (0 : Int64)), (.long (0 : Int64)), (.long (0 : Int64)), (.long (0 : Int64)), (.long (0 : Int64)), (.long (0 : Int64)), (.long (0 : Int64)), (.long (0 : Int64)), (.long (0 : Int64)), (.long (0 : Int64)), (.long (0 : Int64)), (.long (0 : Int64)), (.long (0 : Int64)), (.long (0 : Int64)), (.long (0 : Int64))] (.long (0 : Int64)) := Arv.set Ar6 qa6 Sa6 Na6 Ha6 Ga6 rfl W7 2 rfl (Nat.le_of_ble_eq_true rfl)
  obtain ⟨Lo7, X7, N7⟩ : ∃ K, Stand p l e room_1 s m #[(.int i1), (.long i2)] below meth c T7 K 1 34 ∧ Fr n0 K := ⟨_, X7, (Fr.snoc X7 N5 g_b1)⟩
  refine own_step (f' := (mkF m 22 #[.val (.int i1), .val (.long i2), .second, .unset, .unset, .unset, .unset, .unset, .unset, .unset, .unset, .unset, .unset, .unset, .unset, .unset, .unset] [(.ref b1)])) st7 ?_
  refine own_step (f' := (mkF m 23 #[.val (.int i1), .val (.long i2), .second, .unset, .unset, .unset, .unset, .unset, .unset, .unset, .unset, .unset, .unset, .unset, .unset, .unset, .unset] [(.ref b1), (.ref b1)])) (fun _ k => XS.dup X7.here hx rfl (hb hby at_22) rfl rfl k) ?_
  refine own_step (f' := (mkF m 24 #[.val (.int i1), .val (.long i2), .second, .unset, .unset, .unset, .unset, .unset, .unset, .unset, .unset, .unset, .unset, .unset, .unset, .unset, .unset] [(.int (3 : Int32)), (.ref b1), (.ref b1)])) (fun _ k => XS.iconst X7.here hx rfl (hb hby at_23) k) ?_
  refine own_step (f' := (mkF m 27 #[.val (.int i1), .val (.long i2), .second, .unset, .unset, .unset, .unset, .unset, .unset, .unset, .unset, .unset, .unset, .unset, .unset, .unset, .unset] [(.long (65 : Int64)), (.int (3 : Int32)), (.ref b1), (.ref b1)])) (fun _ k => X7.ldc2Long hx hown (mvT hZ (hw _ (List.mem_of_getElem? (i := 4) rfl))) (g := (mkF m 24 #[.val (.int i1), .val (.long i2), .second, .unset, .unset, .unset, .unset, .unset, .unset, .unset, .unset, .unset, .unset, .unset, .unset, .unset, .unset] [(.int (3 : Int32)), (.ref b1), (.ref b1)])) rfl (hb hby at_24) _ k) ?_
  obtain ⟨cl8, Ar8, qa8, Sa8, Na8, Ha8, Ga8⟩ := id (V7)
  have hin9 : ¬ ((3 : Int32) < 0 ∨ cl8.slots.size ≤ ((3 : Int32)).toNatClampNeg) := inb_of Sa8 ⟨by decide, by decide⟩
  obtain ⟨T9, h9, X9, e9, W9, st9⟩ := stJ X7 hx hZ e7 Ar8 (j := (3 : Int32)) hin9 (g := (mkF m 27 #[.val (.int i1), .val (.long i2), .second, .unset, .unset, .unset, .unset, .unset, .unset, .unset, .unset, .unset, .unset, .unset, .unset, .unset, .unset] [(.long (65 : Int64)), (.int (3 : Int32)), (.ref b1), (.ref b1)])) rfl rfl (hb hby at_27)
  have V9 : Arv Z h9 b1 k1 .long (34 : Int32) [(.long (-2147483648 : Int64)), (.long (58 : Int64)), (.long (59 : Int64)), (.long (65 : Int64)), (.long (0 : Int64)), (.long (0 : Int64)), (.long (0 : Int64)), (.long (0 : Int64)), (.long (0 : Int64)), (.long (0 : Int64)), (.long (0 : Int64)), (.long (0 : Int64)), (.long (0 : Int64)), (.long (0 : Int64)), (.long (0 : Int64)), (.long (0 : Int64)), (.long (0 : Int64)), (.long (0 : Int64)), (.long (0 : Int64)), (.long (0 : Int64)), (.long (0 : Int64)), (.long (0 : Int64)), (.long (0 : Int64)), (.long (0 : Int64)), (.long (0 : Int64)), (.long (0 : Int64)), (.long (0 : Int64)), (.long (0 : Int64)), (.long (0 : Int64)), (.long (0 : Int64)), (.long (0 : Int64)), (.long (0 : Int64)), (.long (0 : Int64)), (.long (0 : Int64))] (.long (0 : Int64)) := Arv.set Ar8 qa8 Sa8 Na8 Ha8 Ga8 rfl W9 3 rfl (Nat.le_of_ble_eq_true rfl)
  obtain ⟨Lo9, X9, N9⟩ : ∃ K, Stand p l e room_1 s m #[(.int i1), (.long i2)] below meth c T9 K 1 34 ∧ Fr n0 K := ⟨_, X9, (Fr.snoc X9 N7 g_b1)⟩
  refine own_step (f' := (mkF m 28 #[.val (.int i1), .val (.long i2), .second, .unset, .unset, .unset, .unset, .unset, .unset, .unset, .unset, .unset, .unset, .unset, .unset, .unset, .unset] [(.ref b1)])) st9 ?_
  refine own_step (f' := (mkF m 29 #[.val (.int i1), .val (.long i2), .second, .unset, .unset, .unset, .unset, .unset, .unset, .unset, .unset, .unset, .unset, .unset, .unset, .unset, .unset] [(.ref b1), (.ref b1)])) (fun _ k => XS.dup X9.here hx rfl (hb hby at_28) rfl rfl k) ?_
  refine own_step (f' := (mkF m 30 #[.val (.int i1), .val (.long i2), .second, .unset, .unset, .unset, .unset, .unset, .unset, .unset, .unset, .unset, .unset, .unset, .unset, .unset, .unset] [(.int (4 : Int32)), (.ref b1), (.ref b1)])) (fun _ k => XS.iconst X9.here hx rfl (hb hby at_29) k) ?_
  refine own_step (f' := (mkF m 33 #[.val (.int i1), .val (.long i2), .second, .unset, .unset, .unset, .unset, .unset, .unset, .unset, .unset, .unset, .unset, .unset, .unset, .unset, .unset] [(.long (91 : Int64)), (.int (4 : Int32)), (.ref b1), (.ref b1)])) (fun _ k => X9.ldc2Long hx hown (mvT hZ (hw _ (List.mem_of_getElem? (i := 5) rfl))) (g := (mkF m 30 #[.val (.int i1), .val (.long i2), .second, .unset, .unset, .unset, .unset, .unset, .unset, .unset, .unset, .unset, .unset, .unset, .unset, .unset, .unset] [(.int (4 : Int32)), (.ref b1), (.ref b1)])) rfl (hb hby at_30) _ k) ?_
  obtain ⟨cl10, Ar10, qa10, Sa10, Na10, Ha10, Ga10⟩ := id (V9)
  have hin11 : ¬ ((4 : Int32) < 0 ∨ cl10.slots.size ≤ ((4 : Int32)).toNatClampNeg) := inb_of Sa10 ⟨by decide, by decide⟩
  obtain ⟨T11, h11, X11, e11, W11, st11⟩ := stJ X9 hx hZ e9 Ar10 (j := (4 : Int32)) hin11 (g := (mkF m 33 #[.val (.int i1), .val (.long i2), .second, .unset, .unset, .unset, .unset, .unset, .unset, .unset, .unset, .unset, .unset, .unset, .unset, .unset, .unset] [(.long (91 : Int64)), (.int (4 : Int32)), (.ref b1), (.ref b1)])) rfl rfl (hb hby at_33)
  have V11 : Arv Z h11 b1 k1 .long (34 : Int32) [(.long (-2147483648 : Int64)), (.long (58 : Int64)), (.long (59 : Int64)), (.long (65 : Int64)), (.long (91 : Int64)), (.long (0 : Int64)), (.long (0 : Int64)), (.long (0 : Int64)), (.long (0 : Int64)), (.long (0 : Int64)), (.long (0 : Int64)), (.long (0 : Int64)), (.long (0 : Int64)), (.long (0 : Int64)), (.long (0 : Int64)), (.long (0 : Int64)), (.long (0 : Int64)), (.long (0 : Int64)), (.long (0 : Int64)), (.long (0 : Int64)), (.long (0 : Int64)), (.long (0 : Int64)), (.long (0 : Int64)), (.long (0 : Int64)), (.long (0 : Int64)), (.long (0 : Int64)), (.long (0 : Int64)), (.long (0 : Int64)), (.long (0 : Int64)), (.long (0 : Int64)), (.long (0 : Int64)), (.long (0 : Int64)), (.long (0 : Int64)), (.long (0 : Int64))] (.long (0 : Int64)) := Arv.set Ar10 qa10 Sa10 Na10 Ha10 Ga10 rfl W11 4 rfl (Nat.le_of_ble_eq_true rfl)
  obtain ⟨Lo11, X11, N11⟩ : ∃ K, Stand p l e room_1 s m #[(.int i1), (.long i2)] below meth c T11 K 1 34 ∧ Fr n0 K := ⟨_, X11, (Fr.snoc X11 N9 g_b1)⟩
  refine own_step (f' := (mkF m 34 #[.val (.int i1), .val (.long i2), .second, .unset, .unset, .unset, .unset, .unset, .unset, .unset, .unset, .unset, .unset, .unset, .unset, .unset, .unset] [(.ref b1)])) st11 ?_
  refine own_step (f' := (mkF m 35 #[.val (.int i1), .val (.long i2), .second, .unset, .unset, .unset, .unset, .unset, .unset, .unset, .unset, .unset, .unset, .unset, .unset, .unset, .unset] [(.ref b1), (.ref b1)])) (fun _ k => XS.dup X11.here hx rfl (hb hby at_34) rfl rfl k) ?_
  refine own_step (f' := (mkF m 36 #[.val (.int i1), .val (.long i2), .second, .unset, .unset, .unset, .unset, .unset, .unset, .unset, .unset, .unset, .unset, .unset, .unset, .unset, .unset] [(.int (5 : Int32)), (.ref b1), (.ref b1)])) (fun _ k => XS.iconst X11.here hx rfl (hb hby at_35) k) ?_
  refine own_step (f' := (mkF m 39 #[.val (.int i1), .val (.long i2), .second, .unset, .unset, .unset, .unset, .unset, .unset, .unset, .unset, .unset, .unset, .unset, .unset, .unset, .unset] [(.long (95 : Int64)), (.int (5 : Int32)), (.ref b1), (.ref b1)])) (fun _ k => X11.ldc2Long hx hown (mvT hZ (hw _ (List.mem_of_getElem? (i := 6) rfl))) (g := (mkF m 36 #[.val (.int i1), .val (.long i2), .second, .unset, .unset, .unset, .unset, .unset, .unset, .unset, .unset, .unset, .unset, .unset, .unset, .unset, .unset] [(.int (5 : Int32)), (.ref b1), (.ref b1)])) rfl (hb hby at_36) _ k) ?_
  obtain ⟨cl12, Ar12, qa12, Sa12, Na12, Ha12, Ga12⟩ := id (V11)
  have hin13 : ¬ ((5 : Int32) < 0 ∨ cl12.slots.size ≤ ((5 : Int32)).toNatClampNeg) := inb_of Sa12 ⟨by decide, by decide⟩
  obtain ⟨T13, h13, X13, e13, W13, st13⟩ := stJ X11 hx hZ e11 Ar12 (j := (5 : Int32)) hin13 (g := (mkF m 39 #[.val (.int i1), .val (.long i2), .second, .unset, .unset, .unset, .unset, .unset, .unset, .unset, .unset, .unset, .unset, .unset, .unset, .unset, .unset] [(.long (95 : Int64)), (.int (5 : Int32)), (.ref b1), (.ref b1)])) rfl rfl (hb hby at_39)
  have V13 : Arv Z h13 b1 k1 .long (34 : Int32) [(.long (-2147483648 : Int64)), (.long (58 : Int64)), (.long (59 : Int64)), (.long (65 : Int64)), (.long (91 : Int64)), (.long (95 : Int64)), (.long (0 : Int64)), (.long (0 : Int64)), (.long (0 : Int64)), (.long (0 : Int64)), (.long (0 : Int64)), (.long (0 : Int64)), (.long (0 : Int64)), (.long (0 : Int64)), (.long (0 : Int64)), (.long (0 : Int64)), (.long (0 : Int64)), (.long (0 : Int64)), (.long (0 : Int64)), (.long (0 : Int64)), (.long (0 : Int64)), (.long (0 : Int64)), (.long (0 : Int64)), (.long (0 : Int64)), (.long (0 : Int64)), (.long (0 : Int64)), (.long (0 : Int64)), (.long (0 : Int64)), (.long (0 : Int64)), (.long (0 : Int64)), (.long (0 : Int64)), (.long (0 : Int64)), (.long (0 : Int64)), (.long (0 : Int64))] (.long (0 : Int64)) := Arv.set Ar12 qa12 Sa12 Na12 Ha12 Ga12 rfl W13 5 rfl (Nat.le_of_ble_eq_true rfl)
  obtain ⟨Lo13, X13, N13⟩ : ∃ K, Stand p l e room_1 s m #[(.int i1), (.long i2)] below meth c T13 K 1 34 ∧ Fr n0 K := ⟨_, X13, (Fr.snoc X13 N11 g_b1)⟩
  refine own_step (f' := (mkF m 40 #[.val (.int i1), .val (.long i2), .second, .unset, .unset, .unset, .unset, .unset, .unset, .unset, .unset, .unset, .unset, .unset, .unset, .unset, .unset] [(.ref b1)])) st13 ?_
  refine own_step (f' := (mkF m 41 #[.val (.int i1), .val (.long i2), .second, .unset, .unset, .unset, .unset, .unset, .unset, .unset, .unset, .unset, .unset, .unset, .unset, .unset, .unset] [(.ref b1), (.ref b1)])) (fun _ k => XS.dup X13.here hx rfl (hb hby at_40) rfl rfl k) ?_
  refine own_step (f' := (mkF m 43 #[.val (.int i1), .val (.long i2), .second, .unset, .unset, .unset, .unset, .unset, .unset, .unset, .unset, .unset, .unset, .unset, .unset, .unset, .unset] [(.int (6 : Int32)), (.ref b1), (.ref b1)])) (fun _ k => XS.bipush X13.here hx rfl (hb hby at_41) k) ?_
  refine own_step (f' := (mkF m 46 #[.val (.int i1), .val (.long i2), .second, .unset, .unset, .unset, .unset, .unset, .unset, .unset, .unset, .unset, .unset, .unset, .unset, .unset, .unset] [(.long (96 : Int64)), (.int (6 : Int32)), (.ref b1), (.ref b1)])) (fun _ k => X13.ldc2Long hx hown (mvT hZ (hw _ (List.mem_of_getElem? (i := 7) rfl))) (g := (mkF m 43 #[.val (.int i1), .val (.long i2), .second, .unset, .unset, .unset, .unset, .unset, .unset, .unset, .unset, .unset, .unset, .unset, .unset, .unset, .unset] [(.int (6 : Int32)), (.ref b1), (.ref b1)])) rfl (hb hby at_43) _ k) ?_
  obtain ⟨cl14, Ar14, qa14, Sa14, Na14, Ha14, Ga14⟩ := id (V13)
  have hin15 : ¬ ((6 : Int32) < 0 ∨ cl14.slots.size ≤ ((6 : Int32)).toNatClampNeg) := inb_of Sa14 ⟨by decide, by decide⟩
  obtain ⟨T15, h15, X15, e15, W15, st15⟩ := stJ X13 hx hZ e13 Ar14 (j := (6 : Int32)) hin15 (g := (mkF m 46 #[.val (.int i1), .val (.long i2), .second, .unset, .unset, .unset, .unset, .unset, .unset, .unset, .unset, .unset, .unset, .unset, .unset, .unset, .unset] [(.long (96 : Int64)), (.int (6 : Int32)), (.ref b1), (.ref b1)])) rfl rfl (hb hby at_46)
  have V15 : Arv Z h15 b1 k1 .long (34 : Int32) [(.long (-2147483648 : Int64)), (.long (58 : Int64)), (.long (59 : Int64)), (.long (65 : Int64)), (.long (91 : Int64)), (.long (95 : Int64)), (.long (96 : Int64)), (.long (0 : Int64)), (.long (0 : Int64)), (.long (0 : Int64)), (.long (0 : Int64)), (.long (0 : Int64)), (.long (0 : Int64)), (.long (0 : Int64)), (.long (0 : Int64)), (.long (0 : Int64)), (.long (0 : Int64)), (.long (0 : Int64)), (.long (0 : Int64)), (.long (0 : Int64)), (.long (0 : Int64)), (.long (0 : Int64)), (.long (0 : Int64)), (.long (0 : Int64)), (.long (0 : Int64)), (.long (0 : Int64)), (.long (0 : Int64)), (.long (0 : Int64)), (.long (0 : Int64)), (.long (0 : Int64)), (.long (0 : Int64)), (.long (0 : Int64)), (.long (0 : Int64)), (.long (0 : Int64))] (.long (0 : Int64)) := Arv.set Ar14 qa14 Sa14 Na14 Ha14 Ga14 rfl W15 6 rfl (Nat.le_of_ble_eq_true rfl)
  obtain ⟨Lo15, X15, N15⟩ : ∃ K, Stand p l e room_1 s m #[(.int i1), (.long i2)] below meth c T15 K 1 34 ∧ Fr n0 K := ⟨_, X15, (Fr.snoc X15 N13 g_b1)⟩
  refine own_step (f' := (mkF m 47 #[.val (.int i1), .val (.long i2), .second, .unset, .unset, .unset, .unset, .unset, .unset, .unset, .unset, .unset, .unset, .unset, .unset, .unset, .unset] [(.ref b1)])) st15 ?_
  refine own_step (f' := (mkF m 48 #[.val (.int i1), .val (.long i2), .second, .unset, .unset, .unset, .unset, .unset, .unset, .unset, .unset, .unset, .unset, .unset, .unset, .unset, .unset] [(.ref b1), (.ref b1)])) (fun _ k => XS.dup X15.here hx rfl (hb hby at_47) rfl rfl k) ?_
  refine own_step (f' := (mkF m 50 #[.val (.int i1), .val (.long i2), .second, .unset, .unset, .unset, .unset, .unset, .unset, .unset, .unset, .unset, .unset, .unset, .unset, .unset, .unset] [(.int (7 : Int32)), (.ref b1), (.ref b1)])) (fun _ k => XS.bipush X15.here hx rfl (hb hby at_48) k) ?_
  refine own_step (f' := (mkF m 53 #[.val (.int i1), .val (.long i2), .second, .unset, .unset, .unset, .unset, .unset, .unset, .unset, .unset, .unset, .unset, .unset, .unset, .unset, .unset] [(.long (97 : Int64)), (.int (7 : Int32)), (.ref b1), (.ref b1)])) (fun _ k => X15.ldc2Long hx hown (mvT hZ (hw _ (List.mem_of_getElem? (i := 8) rfl))) (g := (mkF m 50 #[.val (.int i1), .val (.long i2), .second, .unset, .unset, .unset, .unset, .unset, .unset, .unset, .unset, .unset, .unset, .unset, .unset, .unset, .unset] [(.int (7 : Int32)), (.ref b1), (.ref b1)])) rfl (hb hby at_50) _ k) ?_
  obtain ⟨cl16, Ar16, qa16, Sa16, Na16, Ha16, Ga16⟩ := id (V15)
  have hin17 : ¬ ((7 : Int32) < 0 ∨ cl16.slots.size ≤ ((7 : Int32)).toNatClampNeg) := inb_of Sa16 ⟨by decide, by decide⟩
  obtain ⟨T17, h17, X17, e17, W17, st17⟩ := stJ X15 hx hZ e15 Ar16 (j := (7 : Int32)) hin17 (g := (mkF m 53 #[.val (.int i1), .val (.long i2), .second, .unset, .unset, .unset, .unset, .unset, .unset, .unset, .unset, .unset, .unset, .unset, .unset, .unset, .unset] [(.long (97 : Int64)), (.int (7 : Int32)), (.ref b1), (.ref b1)])) rfl rfl (hb hby at_53)
  have V17 : Arv Z h17 b1 k1 .long (34 : Int32) [(.long (-2147483648 : Int64)), (.long (58 : Int64)), (.long (59 : Int64)), (.long (65 : Int64)), (.long (91 : Int64)), (.long (95 : Int64)), (.long (96 : Int64)), (.long (97 : Int64)), (.long (0 : Int64)), (.long (0 : Int64)), (.long (0 : Int64)), (.long (0 : Int64)), (.long (0 : Int64)), (.long (0 : Int64)), (.long (0 : Int64)), (.long (0 : Int64)), (.long (0 : Int64)), (.long (0 : Int64)), (.long (0 : Int64)), (.long (0 : Int64)), (.long (0 : Int64)), (.long (0 : Int64)), (.long (0 : Int64)), (.long (0 : Int64)), (.long (0 : Int64)), (.long (0 : Int64)), (.long (0 : Int64)), (.long (0 : Int64)), (.long (0 : Int64)), (.long (0 : Int64)), (.long (0 : Int64)), (.long (0 : Int64)), (.long (0 : Int64)), (.long (0 : Int64))] (.long (0 : Int64)) := Arv.set Ar16 qa16 Sa16 Na16 Ha16 Ga16 rfl W17 7 rfl (Nat.le_of_ble_eq_true rfl)
  obtain ⟨Lo17, X17, N17⟩ : ∃ K, Stand p l e room_1 s m #[(.int i1), (.long i2)] below meth c T17 K 1 34 ∧ Fr n0 K := ⟨_, X17, (Fr.snoc X17 N15 g_b1)⟩
  refine own_step (f' := (mkF m 54 #[.val (.int i1), .val (.long i2), .second, .unset, .unset, .unset, .unset, .unset, .unset, .unset, .unset, .unset, .unset, .unset, .unset, .unset, .unset] [(.ref b1)])) st17 ?_
  refine own_step (f' := (mkF m 55 #[.val (.int i1), .val (.long i2), .second, .unset, .unset, .unset, .unset, .unset, .unset, .unset, .unset, .unset, .unset, .unset, .unset, .unset, .unset] [(.ref b1), (.ref b1)])) (fun _ k => XS.dup X17.here hx rfl (hb hby at_54) rfl rfl k) ?_
  refine own_step (f' := (mkF m 57 #[.val (.int i1), .val (.long i2), .second, .unset, .unset, .unset, .unset, .unset, .unset, .unset, .unset, .unset, .unset, .unset, .unset, .unset, .unset] [(.int (8 : Int32)), (.ref b1), (.ref b1)])) (fun _ k => XS.bipush X17.here hx rfl (hb hby at_55) k) ?_
  refine own_step (f' := (mkF m 60 #[.val (.int i1), .val (.long i2), .second, .unset, .unset, .unset, .unset, .unset, .unset, .unset, .unset, .unset, .unset, .unset, .unset, .unset, .unset] [(.long (123 : Int64)), (.int (8 : Int32)), (.ref b1), (.ref b1)])) (fun _ k => X17.ldc2Long hx hown (mvT hZ (hw _ (List.mem_of_getElem? (i := 9) rfl))) (g := (mkF m 57 #[.val (.int i1), .val (.long i2), .second, .unset, .unset, .unset, .unset, .unset, .unset, .unset, .unset, .unset, .unset, .unset, .unset, .unset, .unset] [(.int (8 : Int32)), (.ref b1), (.ref b1)])) rfl (hb hby at_57) _ k) ?_
  obtain ⟨cl18, Ar18, qa18, Sa18, Na18, Ha18, Ga18⟩ := id (V17)
  have hin19 : ¬ ((8 : Int32) < 0 ∨ cl18.slots.size ≤ ((8 : Int32)).toNatClampNeg) := inb_of Sa18 ⟨by decide, by decide⟩
  obtain ⟨T19, h19, X19, e19, W19, st19⟩ := stJ X17 hx hZ e17 Ar18 (j := (8 : Int32)) hin19 (g := (mkF m 60 #[.val (.int i1), .val (.long i2), .second, .unset, .unset, .unset, .unset, .unset, .unset, .unset, .unset, .unset, .unset, .unset, .unset, .unset, .unset] [(.long (123 : Int64)), (.int (8 : Int32)), (.ref b1), (.ref b1)])) rfl rfl (hb hby at_60)
  have V19 : Arv Z h19 b1 k1 .long (34 : Int32) [(.long (-2147483648 : Int64)), (.long (58 : Int64)), (.long (59 : Int64)), (.long (65 : Int64)), (.long (91 : Int64)), (.long (95 : Int64)), (.long (96 : Int64)), (.long (97 : Int64)), (.long (123 : Int64)), (.long (0 : Int64)), (.long (0 : Int64)), (.long (0 : Int64)), (.long (0 : Int64)), (.long (0 : Int64)), (.long (0 : Int64)), (.long (0 : Int64)), (.long (0 : Int64)), (.long (0 : Int64)), (.long (0 : Int64)), (.long (0 : Int64)), (.long (0 : Int64)), (.long (0 : Int64)), (.long (0 : Int64)), (.long (0 : Int64)), (.long (0 : Int64)), (.long (0 : Int64)), (.long (0 : Int64)), (.long (0 : Int64)), (.long (0 : Int64)), (.long (0 : Int64)), (.long (0 : Int64)), (.long (0 : Int64)), (.long (0 : Int64)), (.long (0 : Int64))] (.long (0 : Int64)) := Arv.set Ar18 qa18 Sa18 Na18 Ha18 Ga18 rfl W19 8 rfl (Nat.le_of_ble_eq_true rfl)
  obtain ⟨Lo19, X19, N19⟩ : ∃ K, Stand p l e room_1 s m #[(.int i1), (.long i2)] below meth c T19 K 1 34 ∧ Fr n0 K := ⟨_, X19, (Fr.snoc X19 N17 g_b1)⟩
  refine own_step (f' := (mkF m 61 #[.val (.int i1), .val (.long i2), .second, .unset, .unset, .unset, .unset, .unset, .unset, .unset, .unset, .unset, .unset, .unset, .unset, .unset, .unset] [(.ref b1)])) st19 ?_
  refine own_step (f' := (mkF m 62 #[.val (.int i1), .val (.long i2), .second, .unset, .unset, .unset, .unset, .unset, .unset, .unset, .unset, .unset, .unset, .unset, .unset, .unset, .unset] [(.ref b1), (.ref b1)])) (fun _ k => XS.dup X19.here hx rfl (hb hby at_61) rfl rfl k) ?_
  refine own_step (f' := (mkF m 64 #[.val (.int i1), .val (.long i2), .second, .unset, .unset, .unset, .unset, .unset, .unset, .unset, .unset, .unset, .unset, .unset, .unset, .unset, .unset] [(.int (9 : Int32)), (.ref b1), (.ref b1)])) (fun _ k => XS.bipush X19.here hx rfl (hb hby at_62) k) ?_
  refine own_step (f' := (mkF m 67 #[.val (.int i1), .val (.long i2), .second, .unset, .unset, .unset, .unset, .unset, .unset, .unset, .unset, .unset, .unset, .unset, .unset, .unset, .unset] [(.long (192 : Int64)), (.int (9 : Int32)), (.ref b1), (.ref b1)])) (fun _ k => X19.ldc2Long hx hown (mvT hZ (hw _ (List.mem_of_getElem? (i := 10) rfl))) (g := (mkF m 64 #[.val (.int i1), .val (.long i2), .second, .unset, .unset, .unset, .unset, .unset, .unset, .unset, .unset, .unset, .unset, .unset, .unset, .unset, .unset] [(.int (9 : Int32)), (.ref b1), (.ref b1)])) rfl (hb hby at_64) _ k) ?_
  obtain ⟨cl20, Ar20, qa20, Sa20, Na20, Ha20, Ga20⟩ := id (V19)
  have hin21 : ¬ ((9 : Int32) < 0 ∨ cl20.slots.size ≤ ((9 : Int32)).toNatClampNeg) := inb_of Sa20 ⟨by decide, by decide⟩
  obtain ⟨T21, h21, X21, e21, W21, st21⟩ := stJ X19 hx hZ e19 Ar20 (j := (9 : Int32)) hin21 (g := (mkF m 67 #[.val (.int i1), .val (.long i2), .second, .unset, .unset, .unset, .unset, .unset, .unset, .unset, .unset, .unset, .unset, .unset, .unset, .unset, .unset] [(.long (192 : Int64)), (.int (9 : Int32)), (.ref b1), (.ref b1)])) rfl rfl (hb hby at_67)
  have V21 : Arv Z h21 b1 k1 .long (34 : Int32) [(.long (-2147483648 : Int64)), (.long (58 : Int64)), (.long (59 : Int64)), (.long (65 : Int64)), (.long (91 : Int64)), (.long (95 : Int64)), (.long (96 : Int64)), (.long (97 : Int64)), (.long (123 : Int64)), (.long (192 : Int64)), (.long (0 : Int64)), (.long (0 : Int64)), (.long (0 : Int64)), (.long (0 : Int64)), (.long (0 : Int64)), (.long (0 : Int64)), (.long (0 : Int64)), (.long (0 : Int64)), (.long (0 : Int64)), (.long (0 : Int64)), (.long (0 : Int64)), (.long (0 : Int64)), (.long (0 : Int64)), (.long (0 : Int64)), (.long (0 : Int64)), (.long (0 : Int64)), (.long (0 : Int64)), (.long (0 : Int64)), (.long (0 : Int64)), (.long (0 : Int64)), (.long (0 : Int64)), (.long (0 : Int64)), (.long (0 : Int64)), (.long (0 : Int64))] (.long (0 : Int64)) := Arv.set Ar20 qa20 Sa20 Na20 Ha20 Ga20 rfl W21 9 rfl (Nat.le_of_ble_eq_true rfl)
  obtain ⟨Lo21, X21, N21⟩ : ∃ K, Stand p l e room_1 s m #[(.int i1), (.long i2)] below meth c T21 K 1 34 ∧ Fr n0 K := ⟨_, X21, (Fr.snoc X21 N19 g_b1)⟩
  refine own_step (f' := (mkF m 68 #[.val (.int i1), .val (.long i2), .second, .unset, .unset, .unset, .unset, .unset, .unset, .unset, .unset, .unset, .unset, .unset, .unset, .unset, .unset] [(.ref b1)])) st21 ?_
  refine own_step (f' := (mkF m 69 #[.val (.int i1), .val (.long i2), .second, .unset, .unset, .unset, .unset, .unset, .unset, .unset, .unset, .unset, .unset, .unset, .unset, .unset, .unset] [(.ref b1), (.ref b1)])) (fun _ k => XS.dup X21.here hx rfl (hb hby at_68) rfl rfl k) ?_
  refine own_step (f' := (mkF m 71 #[.val (.int i1), .val (.long i2), .second, .unset, .unset, .unset, .unset, .unset, .unset, .unset, .unset, .unset, .unset, .unset, .unset, .unset, .unset] [(.int (10 : Int32)), (.ref b1), (.ref b1)])) (fun _ k => XS.bipush X21.here hx rfl (hb hby at_69) k) ?_
  refine own_step (f' := (mkF m 74 #[.val (.int i1), .val (.long i2), .second, .unset, .unset, .unset, .unset, .unset, .unset, .unset, .unset, .unset, .unset, .unset, .unset, .unset, .unset] [(.long (215 : Int64)), (.int (10 : Int32)), (.ref b1), (.ref b1)])) (fun _ k => X21.ldc2Long hx hown (mvT hZ (hw _ (List.mem_of_getElem? (i := 11) rfl))) (g := (mkF m 71 #[.val (.int i1), .val (.long i2), .second, .unset, .unset, .unset, .unset, .unset, .unset, .unset, .unset, .unset, .unset, .unset, .unset, .unset, .unset] [(.int (10 : Int32)), (.ref b1), (.ref b1)])) rfl (hb hby at_71) _ k) ?_
  obtain ⟨cl22, Ar22, qa22, Sa22, Na22, Ha22, Ga22⟩ := id (V21)
  have hin23 : ¬ ((10 : Int32) < 0 ∨ cl22.slots.size ≤ ((10 : Int32)).toNatClampNeg) := inb_of Sa22 ⟨by decide, by decide⟩
  obtain ⟨T23, h23, X23, e23, W23, st23⟩ := stJ X21 hx hZ e21 Ar22 (j := (10 : Int32)) hin23 (g := (mkF m 74 #[.val (.int i1), .val (.long i2), .second, .unset, .unset, .unset, .unset, .unset, .unset, .unset, .unset, .unset, .unset, .unset, .unset, .unset, .unset] [(.long (215 : Int64)), (.int (10 : Int32)), (.ref b1), (.ref b1)])) rfl rfl (hb hby at_74)
  have V23 : Arv Z h23 b1 k1 .long (34 : Int32) [(.long (-2147483648 : Int64)), (.long (58 : Int64)), (.long (59 : Int64)), (.long (65 : Int64)), (.long (91 : Int64)), (.long (95 : Int64)), (.long (96 : Int64)), (.long (97 : Int64)), (.long (123 : Int64)), (.long (192 : Int64)), (.long (215 : Int64)), (.long (0 : Int64)), (.long (0 : Int64)), (.long (0 : Int64)), (.long (0 : Int64)), (.long (0 : Int64)), (.long (0 : Int64)), (.long (0 : Int64)), (.long (0 : Int64)), (.long (0 : Int64)), (.long (0 : Int64)), (.long (0 : Int64)), (.long (0 : Int64)), (.long (0 : Int64)), (.long (0 : Int64)), (.long (0 : Int64)), (.long (0 : Int64)), (.long (0 : Int64)), (.long (0 : Int64)), (.long (0 : Int64)), (.long (0 : Int64)), (.long (0 : Int64)), (.long (0 : Int64)), (.long (0 : Int64))] (.long (0 : Int64)) := Arv.set Ar22 qa22 Sa22 Na22 Ha22 Ga22 rfl W23 10 rfl (Nat.le_of_ble_eq_true rfl)
  obtain ⟨Lo23, X23, N23⟩ : ∃ K, Stand p l e room_1 s m #[(.int i1), (.long i2)] below meth c T23 K 1 34 ∧ Fr n0 K := ⟨_, X23, (Fr.snoc X23 N21 g_b1)⟩
  refine own_step (f' := (mkF m 75 #[.val (.int i1), .val (.long i2), .second, .unset, .unset, .unset, .unset, .unset, .unset, .unset, .unset, .unset, .unset, .unset, .unset, .unset, .unset] [(.ref b1)])) st23 ?_
  refine own_step (f' := (mkF m 76 #[.val (.int i1), .val (.long i2), .second, .unset, .unset, .unset, .unset, .unset, .unset, .unset, .unset, .unset, .unset, .unset, .unset, .unset, .unset] [(.ref b1), (.ref b1)])) (fun _ k => XS.dup X23.here hx rfl (hb hby at_75) rfl rfl k) ?_
  refine own_step (f' := (mkF m 78 #[.val (.int i1), .val (.long i2), .second, .unset, .unset, .unset, .unset, .unset, .unset, .unset, .unset, .unset, .unset, .unset, .unset, .unset, .unset] [(.int (11 : Int32)), (.ref b1), (.ref b1)])) (fun _ k => XS.bipush X23.here hx rfl (hb hby at_76) k) ?_
  refine own_step (f' := (mkF m 81 #[.val (.int i1), .val (.long i2), .second, .unset, .unset, .unset, .unset, .unset, .unset, .unset, .unset, .unset, .unset, .unset, .unset, .unset, .unset] [(.long (216 : Int64)), (.int (11 : Int32)), (.ref b1), (.ref b1)])) (fun _ k => X23.ldc2Long hx hown (mvT hZ (hw _ (List.mem_of_getElem? (i := 12) rfl))) (g := (mkF m 78 #[.val (.int i1), .val (.long i2), .second, .unset, .unset, .unset, .unset, .unset, .unset, .unset, .unset, .unset, .unset, .unset, .unset, .unset, .unset] [(.int (11 : Int32)), (.ref b1), (.ref b1)])) rfl (hb hby at_78) _ k) ?_
  obtain ⟨cl24, Ar24, qa24, Sa24, Na24, Ha24, Ga24⟩ := id (V23)
  have hin25 : ¬ ((11 : Int32) < 0 ∨ cl24.slots.size ≤ ((11 : Int32)).toNatClampNeg) := inb_of Sa24 ⟨by decide, by decide⟩
  obtain ⟨T25, h25, X25, e25, W25, st25⟩ := stJ X23 hx hZ e23 Ar24 (j := (11 : Int32)) hin25 (g := (mkF m 81 #[.val (.int i1), .val (.long i2), .second, .unset, .unset, .unset, .unset, .unset, .unset, .unset, .unset, .unset, .unset, .unset, .unset, .unset, .unset] [(.long (216 : Int64)), (.int (11 : Int32)), (.ref b1), (.ref b1)])) rfl rfl (hb hby at_81)
  have V25 : Arv Z h25 b1 k1 .long (34 : Int32) [(.long (-2147483648 : Int64)), (.long (58 : Int64)), (.long (59 : Int64)), (.long (65 : Int64)), (.long (91 : Int64)), (.long (95 : Int64)), (.long (96 : Int64)), (.long (97 : Int64)), (.long (123 : Int64)), (.long (192 : Int64)), (.long (215 : Int64)), (.long (216 : Int64)), (.long (0 : Int64)), (.long (0 : Int64)), (.long (0 : Int64)), (.long (0 : Int64)), (.long (0 : Int64)), (.long (0 : Int64)), (.long (0 : Int64)), (.long (0 : Int64)), (.long (0 : Int64)), (.long (0 : Int64)), (.long (0 : Int64)), (.long (0 : Int64)), (.long (0 : Int64)), (.long (0 : Int64)), (.long (0 : Int64)), (.long (0 : Int64)), (.long (0 : Int64)), (.long (0 : Int64)), (.long (0 : Int64)), (.long (0 : Int64)), (.long (0 : Int64)), (.long (0 : Int64))] (.long (0 : Int64)) := Arv.set Ar24 qa24 Sa24 Na24 Ha24 Ga24 rfl W25 11 rfl (Nat.le_of_ble_eq_true rfl)
  obtain ⟨Lo25, X25, N25⟩ : ∃ K, Stand p l e room_1 s m #[(.int i1), (.long i2)] below meth c T25 K 1 34 ∧ Fr n0 K := ⟨_, X25, (Fr.snoc X25 N23 g_b1)⟩
  refine own_step (f' := (mkF m 82 #[.val (.int i1), .val (.long i2), .second, .unset, .unset, .unset, .unset, .unset, .unset, .unset, .unset, .unset, .unset, .unset, .unset, .unset, .unset] [(.ref b1)])) st25 ?_
  refine own_step (f' := (mkF m 83 #[.val (.int i1), .val (.long i2), .second, .unset, .unset, .unset, .unset, .unset, .unset, .unset, .unset, .unset, .unset, .unset, .unset, .unset, .unset] [(.ref b1), (.ref b1)])) (fun _ k => XS.dup X25.here hx rfl (hb hby at_82) rfl rfl k) ?_
  refine own_step (f' := (mkF m 85 #[.val (.int i1), .val (.long i2), .second, .unset, .unset, .unset, .unset, .unset, .unset, .unset, .unset, .unset, .unset, .unset, .unset, .unset, .unset] [(.int (12 : Int32)), (.ref b1), (.ref b1)])) (fun _ k => XS.bipush X25.here hx rfl (hb hby at_83) k) ?_
  refine own_step (f' := (mkF m 88 #[.val (.int i1), .val (.long i2), .second, .unset, .unset, .unset, .unset, .unset, .unset, .unset, .unset, .unset, .unset, .unset, .unset, .unset, .unset] [(.long (247 : Int64)), (.int (12 : Int32)), (.ref b1), (.ref b1)])) (fun _ k => X25.ldc2Long hx hown (mvT hZ (hw _ (List.mem_of_getElem? (i := 13) rfl))) (g := (mkF m 85 #[.val (.int i1), .val (.long i2), .second, .unset, .unset, .unset, .unset, .unset, .unset, .unset, .unset, .unset, .unset, .unset, .unset, .unset, .unset] [(.int (12 : Int32)), (.ref b1), (.ref b1)])) rfl (hb hby at_85) _ k) ?_
  obtain ⟨cl26, Ar26, qa26, Sa26, Na26, Ha26, Ga26⟩ := id (V25)
  have hin27 : ¬ ((12 : Int32) < 0 ∨ cl26.slots.size ≤ ((12 : Int32)).toNatClampNeg) := inb_of Sa26 ⟨by decide, by decide⟩
  obtain ⟨T27, h27, X27, e27, W27, st27⟩ := stJ X25 hx hZ e25 Ar26 (j := (12 : Int32)) hin27 (g := (mkF m 88 #[.val (.int i1), .val (.long i2), .second, .unset, .unset, .unset, .unset, .unset, .unset, .unset, .unset, .unset, .unset, .unset, .unset, .unset, .unset] [(.long (247 : Int64)), (.int (12 : Int32)), (.ref b1), (.ref b1)])) rfl rfl (hb hby at_88)
  have V27 : Arv Z h27 b1 k1 .long (34 : Int32) [(.long (-2147483648 : Int64)), (.long (58 : Int64)), (.long (59 : Int64)), (.long (65 : Int64)), (.long (91 : Int64)), (.long (95 : Int64)), (.long (96 : Int64)), (.long (97 : Int64)), (.long (123 : Int64)), (.long (192 : Int64)), (.long (215 : Int64)), (.long (216 : Int64)), (.long (247 : Int64)), (.long (0 : Int64)), (.long (0 : Int64)), (.long (0 : Int64)), (.long (0 : Int64)), (.long (0 : Int64)), (.long (0 : Int64)), (.long (0 : Int64)), (.long (0 : Int64)), (.long (0 : Int64)), (.long (0 : Int64)), (.long (0 : Int64)), (.long (0 : Int64)), (.long (0 : Int64)), (.long (0 : Int64)), (.long (0 : Int64)), (.long (0 : Int64)), (.long (0 : Int64)), (.long (0 : Int64)), (.long (0 : Int64)), (.long (0 : Int64)), (.long (0 : Int64))] (.long (0 : Int64)) := Arv.set Ar26 qa26 Sa26 Na26 Ha26 Ga26 rfl W27 12 rfl (Nat.le_of_ble_eq_true rfl)
  obtain ⟨Lo27, X27, N27⟩ : ∃ K, Stand p l e room_1 s m #[(.int i1), (.long i2)] below meth c T27 K 1 34 ∧ Fr n0 K := ⟨_, X27, (Fr.snoc X27 N25 g_b1)⟩
  refine own_step (f' := (mkF m 89 #[.val (.int i1), .val (.long i2), .second, .unset, .unset, .unset, .unset, .unset, .unset, .unset, .unset, .unset, .unset, .unset, .unset, .unset, .unset] [(.ref b1)])) st27 ?_
  refine own_step (f' := (mkF m 90 #[.val (.int i1), .val (.long i2), .second, .unset, .unset, .unset, .unset, .unset, .unset, .unset, .unset, .unset, .unset, .unset, .unset, .unset, .unset] [(.ref b1), (.ref b1)])) (fun _ k => XS.dup X27.here hx rfl (hb hby at_89) rfl rfl k) ?_
  refine own_step (f' := (mkF m 92 #[.val (.int i1), .val (.long i2), .second, .unset, .unset, .unset, .unset, .unset, .unset, .unset, .unset, .unset, .unset, .unset, .unset, .unset, .unset] [(.int (13 : Int32)), (.ref b1), (.ref b1)])) (fun _ k => XS.bipush X27.here hx rfl (hb hby at_90) k) ?_
  refine own_step (f' := (mkF m 95 #[.val (.int i1), .val (.long i2), .second, .unset, .unset, .unset, .unset, .unset, .unset, .unset, .unset, .unset, .unset, .unset, .unset, .unset, .unset] [(.long (248 : Int64)), (.int (13 : Int32)), (.ref b1), (.ref b1)])) (fun _ k => X27.ldc2Long hx hown (mvT hZ (hw _ (List.mem_of_getElem? (i := 14) rfl))) (g := (mkF m 92 #[.val (.int i1), .val (.long i2), .second, .unset, .unset, .unset, .unset, .unset, .unset, .unset, .unset, .unset, .unset, .unset, .unset, .unset, .unset] [(.int (13 : Int32)), (.ref b1), (.ref b1)])) rfl (hb hby at_92) _ k) ?_
  obtain ⟨cl28, Ar28, qa28, Sa28, Na28, Ha28, Ga28⟩ := id (V27)
  have hin29 : ¬ ((13 : Int32) < 0 ∨ cl28.slots.size ≤ ((13 : Int32)).toNatClampNeg) := inb_of Sa28 ⟨by decide, by decide⟩
  obtain ⟨T29, h29, X29, e29, W29, st29⟩ := stJ X27 hx hZ e27 Ar28 (j := (13 : Int32)) hin29 (g := (mkF m 95 #[.val (.int i1), .val (.long i2), .second, .unset, .unset, .unset, .unset, .unset, .unset, .unset, .unset, .unset, .unset, .unset, .unset, .unset, .unset] [(.long (248 : Int64)), (.int (13 : Int32)), (.ref b1), (.ref b1)])) rfl rfl (hb hby at_95)
  have V29 : Arv Z h29 b1 k1 .long (34 : Int32) [(.long (-2147483648 : Int64)), (.long (58 : Int64)), (.long (59 : Int64)), (.long (65 : Int64)), (.long (91 : Int64)), (.long (95 : Int64)), (.long (96 : Int64)), (.long (97 : Int64)), (.long (123 : Int64)), (.long (192 : Int64)), (.long (215 : Int64)), (.long (216 : Int64)), (.long (247 : Int64)), (.long (248 : Int64)), (.long (0 : Int64)), (.long (0 : Int64)), (.long (0 : Int64)), (.long (0 : Int64)), (.long (0 : Int64)), (.long (0 : Int64)), (.long (0 : Int64)), (.long (0 : Int64)), (.long (0 : Int64)), (.long (0 : Int64)), (.long (0 : Int64)), (.long (0 : Int64)), (.long (0 : Int64)), (.long (0 : Int64)), (.long (0 : Int64)), (.long (0 : Int64)), (.long (0 : Int64)), (.long (0 : Int64)), (.long (0 : Int64)), (.long (0 : Int64))] (.long (0 : Int64)) := Arv.set Ar28 qa28 Sa28 Na28 Ha28 Ga28 rfl W29 13 rfl (Nat.le_of_ble_eq_true rfl)
  obtain ⟨Lo29, X29, N29⟩ : ∃ K, Stand p l e room_1 s m #[(.int i1), (.long i2)] below meth c T29 K 1 34 ∧ Fr n0 K := ⟨_, X29, (Fr.snoc X29 N27 g_b1)⟩
  refine own_step (f' := (mkF m 96 #[.val (.int i1), .val (.long i2), .second, .unset, .unset, .unset, .unset, .unset, .unset, .unset, .unset, .unset, .unset, .unset, .unset, .unset, .unset] [(.ref b1)])) st29 ?_
  refine own_step (f' := (mkF m 97 #[.val (.int i1), .val (.long i2), .second, .unset, .unset, .unset, .unset, .unset, .unset, .unset, .unset, .unset, .unset, .unset, .unset, .unset, .unset] [(.ref b1), (.ref b1)])) (fun _ k => XS.dup X29.here hx rfl (hb hby at_96) rfl rfl k) ?_
  refine own_step (f' := (mkF m 99 #[.val (.int i1), .val (.long i2), .second, .unset, .unset, .unset, .unset, .unset, .unset, .unset, .unset, .unset, .unset, .unset, .unset, .unset, .unset] [(.int (14 : Int32)), (.ref b1), (.ref b1)])) (fun _ k => XS.bipush X29.here hx rfl (hb hby at_97) k) ?_
  refine own_step (f' := (mkF m 102 #[.val (.int i1), .val (.long i2), .second, .unset, .unset, .unset, .unset, .unset, .unset, .unset, .unset, .unset, .unset, .unset, .unset, .unset, .unset] [(.long (768 : Int64)), (.int (14 : Int32)), (.ref b1), (.ref b1)])) (fun _ k => X29.ldc2Long hx hown (mvT hZ (hw _ (List.mem_of_getElem? (i := 15) rfl))) (g := (mkF m 99 #[.val (.int i1), .val (.long i2), .second, .unset, .unset, .unset, .unset, .unset, .unset, .unset, .unset, .unset, .unset, .unset, .unset, .unset, .unset] [(.int (14 : Int32)), (.ref b1), (.ref b1)])) rfl (hb hby at_99) _ k) ?_
  obtain ⟨cl30, Ar30, qa30, Sa30, Na30, Ha30, Ga30⟩ := id (V29)
  have hin31 : ¬ ((14 : Int32) < 0 ∨ cl30.slots.size ≤ ((14 : Int32)).toNatClampNeg) := inb_of Sa30 ⟨by decide, by decide⟩
  obtain ⟨T31, h31, X31, e31, W31, st31⟩ := stJ X29 hx hZ e29 Ar30 (j := (14 : Int32)) hin31 (g := (mkF m 102 #[.val (.int i1), .val (.long i2), .second, .unset, .unset, .unset, .unset, .unset, .unset, .unset, .unset, .unset, .unset, .unset, .unset, .unset, .unset] [(.long (768 : Int64)), (.int (14 : Int32)), (.ref b1), (.ref b1)])) rfl rfl (hb hby at_102)
  have V31 : Arv Z h31 b1 k1 .long (34 : Int32) [(.long (-2147483648 : Int64)), (.long (58 : Int64)), (.long (59 : Int64)), (.long (65 : Int64)), (.long (91 : Int64)), (.long (95 : Int64)), (.long (96 : Int64)), (.long (97 : Int64)), (.long (123 : Int64)), (.long (192 : Int64)), (.long (215 : Int64)), (.long (216 : Int64)), (.long (247 : Int64)), (.long (248 : Int64)), (.long (768 : Int64)), (.long (0 : Int64)), (.long (0 : Int64)), (.long (0 : Int64)), (.long (0 : Int64)), (.long (0 : Int64)), (.long (0 : Int64)), (.long (0 : Int64)), (.long (0 : Int64)), (.long (0 : Int64)), (.long (0 : Int64)), (.long (0 : Int64)), (.long (0 : Int64)), (.long (0 : Int64)), (.long (0 : Int64)), (.long (0 : Int64)), (.long (0 : Int64)), (.long (0 : Int64)), (.long (0 : Int64)), (.long (0 : Int64))] (.long (0 : Int64)) := Arv.set Ar30 qa30 Sa30 Na30 Ha30 Ga30 rfl W31 14 rfl (Nat.le_of_ble_eq_true rfl)
  obtain ⟨Lo31, X31, N31⟩ : ∃ K, Stand p l e room_1 s m #[(.int i1), (.long i2)] below meth c T31 K 1 34 ∧ Fr n0 K := ⟨_, X31, (Fr.snoc X31 N29 g_b1)⟩
  refine own_step (f' := (mkF m 103 #[.val (.int i1), .val (.long i2), .second, .unset, .unset, .unset, .unset, .unset, .unset, .unset, .unset, .unset, .unset, .unset, .unset, .unset, .unset] [(.ref b1)])) st31 ?_
  refine own_step (f' := (mkF m 104 #[.val (.int i1), .val (.long i2), .second, .unset, .unset, .unset, .unset, .unset, .unset, .unset, .unset, .unset, .unset, .unset, .unset, .unset, .unset] [(.ref b1), (.ref b1)])) (fun _ k => XS.dup X31.here hx rfl (hb hby at_103) rfl rfl k) ?_
  refine own_step (f' := (mkF m 106 #[.val (.int i1), .val (.long i2), .second, .unset, .unset, .unset, .unset, .unset, .unset, .unset, .unset, .unset, .unset, .unset, .unset, .unset, .unset] [(.int (15 : Int32)), (.ref b1), (.ref b1)])) (fun _ k => XS.bipush X31.here hx rfl (hb hby at_104) k) ?_
  refine own_step (f' := (mkF m 109 #[.val (.int i1), .val (.long i2), .second, .unset, .unset, .unset, .unset, .unset, .unset, .unset, .unset, .unset, .unset, .unset, .unset, .unset, .unset] [(.long (880 : Int64)), (.int (15 : Int32)), (.ref b1), (.ref b1)])) (fun _ k => X31.ldc2Long hx hown (mvT hZ (hw _ (List.mem_of_getElem? (i := 16) rfl))) (g := (mkF m 106 #[.val (.int i1), .val (.long i2), .second, .unset, .unset, .unset, .unset, .unset, .unset, .unset, .unset, .unset, .unset, .unset, .unset, .unset, .unset] [(.int (15 : Int32)), (.ref b1), (.ref b1)])) rfl (hb hby at_106) _ k) ?_
  obtain ⟨cl32, Ar32, qa32, Sa32, Na32, Ha32, Ga32⟩ := id (V31)
  have hin33 : ¬ ((15 : Int32) < 0 ∨ cl32.slots.size ≤ ((15 : Int32)).toNatClampNeg) := inb_of Sa32 ⟨by decide, by decide⟩
  obtain ⟨T33, h33, X33, e33, W33, st33⟩ := stJ X31 hx hZ e31 Ar32 (j := (15 : Int32)) hin33 (g := (mkF m 109 #[.val (.int i1), .val (.long i2), .second, .unset, .unset, .unset, .unset, .unset, .unset, .unset, .unset, .unset, .unset, .unset, .unset, .unset, .unset] [(.long (880 : Int64)), (.int (15 : Int32)), (.ref b1), (.ref b1)])) rfl rfl (hb hby at_109)
  have V33 : Arv Z h33 b1 k1 .long (34 : Int32) [(.long (-2147483648 : Int64)), (.long (58 : Int64)), (.long (59 : Int64)), (.long (65 : Int64)), (.long (91 : Int64)), (.long (95 : Int64)), (.long (96 : Int64)), (.long (97 : Int64)), (.long (123 : Int64)), (.long (192 : Int64)), (.long (215 : Int64)), (.long (216 : Int64)), (.long (247 : Int64)), (.long (248 : Int64)), (.long (768 : Int64)), (.long (880 : Int64)), (.long (0 : Int64)), (.long (0 : Int64)), (.long (0 : Int64)), (.long (0 : Int64)), (.long (0 : Int64)), (.long (0 : Int64)), (.long (0 : Int64)), (.long (0 : Int64)), (.long (0 : Int64)), (.long (0 : Int64)), (.long (0 : Int64)), (.long (0 : Int64)), (.long (0 : Int64)), (.long (0 : Int64)), (.long (0 : Int64)), (.long (0 : Int64)), (.long (0 : Int64)), (.long (0 : Int64))] (.long (0 : Int64)) := Arv.set Ar32 qa32 Sa32 Na32 Ha32 Ga32 rfl W33 15 rfl (Nat.le_of_ble_eq_true rfl)
  obtain ⟨Lo33, X33, N33⟩ : ∃ K, Stand p l e room_1 s m #[(.int i1), (.long i2)] below meth c T33 K 1 34 ∧ Fr n0 K := ⟨_, X33, (Fr.snoc X33 N31 g_b1)⟩
  refine own_step (f' := (mkF m 110 #[.val (.int i1), .val (.long i2), .second, .unset, .unset, .unset, .unset, .unset, .unset, .unset, .unset, .unset, .unset, .unset, .unset, .unset, .unset] [(.ref b1)])) st33 ?_
  refine own_step (f' := (mkF m 111 #[.val (.int i1), .val (.long i2), .second, .unset, .unset, .unset, .unset, .unset, .unset, .unset, .unset, .unset, .unset, .unset, .unset, .unset, .unset] [(.ref b1), (.ref b1)])) (fun _ k => XS.dup X33.here hx rfl (hb hby at_110) rfl rfl k) ?_
  refine own_step (f' := (mkF m 113 #[.val (.int i1), .val (.long i2), .second, .unset, .unset, .unset, .unset, .unset, .unset, .unset, .unset, .unset, .unset, .unset, .unset, .unset, .unset] [(.int (16 : Int32)), (.ref b1), (.ref b1)])) (fun _ k => XS.bipush X33.here hx rfl (hb hby at_111) k) ?_
  refine own_step (f' := (mkF m 116 #[.val (.int i1), .val (.long i2), .second, .unset, .unset, .unset, .unset, .unset, .unset, .unset, .unset, .unset, .unset, .unset, .unset, .unset, .unset] [(.long (894 : Int64)), (.int (16 : Int32)), (.ref b1), (.ref b1)])) (fun _ k => X33.ldc2Long hx hown (mvT hZ (hw _ (List.mem_of_getElem? (i := 17) rfl))) (g := (mkF m 113 #[.val (.int i1), .val (.long i2), .second, .unset, .unset, .unset, .unset, .unset, .unset, .unset, .unset, .unset, .unset, .unset, .unset, .unset, .unset] [(.int (16 : Int32)), (.ref b1), (.ref b1)])) rfl (hb hby at_113) _ k) ?_
  obtain ⟨cl34, Ar34, qa34, Sa34, Na34, Ha34, Ga34⟩ := id (V33)
  have hin35 : ¬ ((16 : Int32) < 0 ∨ cl34.slots.size ≤ ((16 : Int32)).toNatClampNeg) := inb_of Sa34 ⟨by decide, by decide⟩
  obtain ⟨T35, h35, X35, e35, W35, st35⟩ := stJ X33 hx hZ e33 Ar34 (j := (16 : Int32)) hin35 (g := (mkF m 116 #[.val (.int i1), .val (.long i2), .second, .unset, .unset, .unset, .unset, .unset, .unset, .unset, .unset, .unset, .unset, .unset, .unset, .unset, .unset] [(.long (894 : Int64)), (.int (16 : Int32)), (.ref b1), (.ref b1)])) rfl rfl (hb hby at_116)
  have V35 : Arv Z h35 b1 k1 .long (34 : Int32) [(.long (-2147483648 : Int64)), (.long (58 : Int64)), (.long (59 : Int64)), (.long (65 : Int64)), (.long (91 : Int64)), (.long (95 : Int64)), (.long (96 : Int64)), (.long (97 : Int64)), (.long (123 : Int64)), (.long (192 : Int64)), (.long (215 : Int64)), (.long (216 : Int64)), (.long (247 : Int64)), (.long (248 : Int64)), (.long (768 : Int64)), (.long (880 : Int64)), (.long (894 : Int64)), (.long (0 : Int64)), (.long (0 : Int64)), (.long (0 : Int64)), (.long (0 : Int64)), (.long (0 : Int64)), (.long (0 : Int64)), (.long (0 : Int64)), (.long (0 : Int64)), (.long (0 : Int64)), (.long (0 : Int64)), (.long (0 : Int64)), (.long (0 : Int64)), (.long (0 : Int64)), (.long (0 : Int64)), (.long (0 : Int64)), (.long (0 : Int64)), (.long (0 : Int64))] (.long (0 : Int64)) := Arv.set Ar34 qa34 Sa34 Na34 Ha34 Ga34 rfl W35 16 rfl (Nat.le_of_ble_eq_true rfl)
  obtain ⟨Lo35, X35, N35⟩ : ∃ K, Stand p l e room_1 s m #[(.int i1), (.long i2)] below meth c T35 K 1 34 ∧ Fr n0 K := ⟨_, X35, (Fr.snoc X35 N33 g_b1)⟩
  refine own_step (f' := (mkF m 117 #[.val (.int i1), .val (.long i2), .second, .unset, .unset, .unset, .unset, .unset, .unset, .unset, .unset, .unset, .unset, .unset, .unset, .unset, .unset] [(.ref b1)])) st35 ?_
  refine own_step (f' := (mkF m 118 #[.val (.int i1), .val (.long i2), .second, .unset, .unset, .unset, .unset, .unset, .unset, .unset, .unset, .unset, .unset, .unset, .unset, .unset, .unset] [(.ref b1), (.ref b1)])) (fun _ k => XS.dup X35.here hx rfl (hb hby at_117) rfl rfl k) ?_
  refine own_step (f' := (mkF m 120 #[.val (.int i1), .val (.long i2), .second, .unset, .unset, .unset, .unset, .unset, .unset, .unset, .unset, .unset, .unset, .unset, .unset, .unset, .unset] [(.int (17 : Int32)), (.ref b1), (.ref b1)])) (fun _ k => XS.bipush X35.here hx rfl (hb hby at_118) k) ?_
  refine own_step (f' := (mkF m 123 #[.val (.int i1), .val (.long i2), .second, .unset, .unset, .unset, .unset, .unset, .unset, .unset, .unset, .unset, .unset, .unset, .unset, .unset, .unset] [(.long (895 : Int64)), (.int (17 : Int32)), (.ref b1), (.ref b1)])) (fun _ k => X35.ldc2Long hx hown (mvT hZ (hw _ (List.mem_of_getElem? (i := 18) rfl))) (g := (mkF m 120 #[.val (.int i1), .val (.long i2), .second, .unset, .unset, .unset, .unset, .unset, .unset, .unset, .unset, .unset, .unset, .unset, .unset, .unset, .unset] [(.int (17 : Int32)), (.ref b1), (.ref b1)])) rfl (hb hby at_120) _ k) ?_
  obtain ⟨cl36, Ar36, qa36, Sa36, Na36, Ha36, Ga36⟩ := id (V35)
  have hin37 : ¬ ((17 : Int32) < 0 ∨ cl36.slots.size ≤ ((17 : Int32)).toNatClampNeg) := inb_of Sa36 ⟨by decide, by decide⟩
  obtain ⟨T37, h37, X37, e37, W37, st37⟩ := stJ X35 hx hZ e35 Ar36 (j := (17 : Int32)) hin37 (g := (mkF m 123 #[.val (.int i1), .val (.long i2), .second, .unset, .unset, .unset, .unset, .unset, .unset, .unset, .unset, .unset, .unset, .unset, .unset, .unset, .unset] [(.long (895 : Int64)), (.int (17 : Int32)), (.ref b1), (.ref b1)])) rfl rfl (hb hby at_123)
  have V37 : Arv Z h37 b1 k1 .long (34 : Int32) [(.long (-2147483648 : Int64)), (.long (58 : Int64)), (.long (59 : Int64)), (.long (65 : Int64)), (.long (91 : Int64)), (.long (95 : Int64)), (.long (96 : Int64)), (.long (97 : Int64)), (.long (123 : Int64)), (.long (192 : Int64)), (.long (215 : Int64)), (.long (216 : Int64)), (.long (247 : Int64)), (.long (248 : Int64)), (.long (768 : Int64)), (.long (880 : Int64)), (.long (894 : Int64)), (.long (895 : Int64)), (.long (0 : Int64)), (.long (0 : Int64)), (.long (0 : Int64)), (.long (0 : Int64)), (.long (0 : Int64)), (.long (0 : Int64)), (.long (0 : Int64)), (.long (0 : Int64)), (.long (0 : Int64)), (.long (0 : Int64)), (.long (0 : Int64)), (.long (0 : Int64)), (.long (0 : Int64)), (.long (0 : Int64)), (.long (0 : Int64)), (.long (0 : Int64))] (.long (0 : Int64)) := Arv.set Ar36 qa36 Sa36 Na36 Ha36 Ga36 rfl W37 17 rfl (Nat.le_of_ble_eq_true rfl)
  obtain ⟨Lo37, X37, N37⟩ : ∃ K, Stand p l e room_1 s m #[(.int i1), (.long i2)] below meth c T37 K 1 34 ∧ Fr n0 K := ⟨_, X37, (Fr.snoc X37 N35 g_b1)⟩
  refine own_step (f' := (mkF m 124 #[.val (.int i1), .val (.long i2), .second, .unset, .unset, .unset, .unset, .unset, .unset, .unset, .unset, .unset, .unset, .unset, .unset, .unset, .unset] [(.ref b1)])) st37 ?_
  refine own_step (f' := (mkF m 125 #[.val (.int i1), .val (.long i2), .second, .unset, .unset, .unset, .unset, .unset, .unset, .unset, .unset, .unset, .unset, .unset, .unset, .unset, .unset] [(.ref b1), (.ref b1)])) (fun _ k => XS.dup X37.here hx rfl (hb hby at_124) rfl rfl k) ?_
  refine own_step (f' := (mkF m 127 #[.val (.int i1), .val (.long i2), .second, .unset, .unset, .unset, .unset, .unset, .unset, .unset, .unset, .unset, .unset, .unset, .unset, .unset, .unset] [(.int (18 : Int32)), (.ref b1), (.ref b1)])) (fun _ k => XS.bipush X37.here hx rfl (hb hby at_125) k) ?_
  refine own_step (f' := (mkF m 130 #[.val (.int i1), .val (.long i2), .second, .unset, .unset, .unset, .unset, .unset, .unset, .unset, .unset, .unset, .unset, .unset, .unset, .unset, .unset] [(.long (8192 : Int64)), (.int (18 : Int32)), (.ref b1), (.ref b1)])) (fun _ k => X37.ldc2Long hx hown (mvT hZ (hw _ (List.mem_of_getElem? (i := 19) rfl))) (g := (mkF m 127 #[.val (.int i1), .val (.long i2), .second, .unset, .unset, .unset, .unset, .unset, .unset, .unset, .unset, .unset, .unset, .unset, .unset, .unset, .unset] [(.int (18 : Int32)), (.ref b1), (.ref b1)])) rfl (hb hby at_127) _ k) ?_
  obtain ⟨cl38, Ar38, qa38, Sa38, Na38, Ha38, Ga38⟩ := id (V37)
  have hin39 : ¬ ((18 : Int32) < 0 ∨ cl38.slots.size ≤ ((18 : Int32)).toNatClampNeg) := inb_of Sa38 ⟨by decide, by decide⟩
  obtain ⟨T39, h39, X39, e39, W39, st39⟩ := stJ X37 hx hZ e37 Ar38 (j := (18 : Int32)) hin39 (g := (mkF m 130 #[.val (.int i1), .val (.long i2), .second, .unset, .unset, .unset, .unset, .unset, .unset, .unset, .unset, .unset, .unset, .unset, .unset, .unset, .unset] [(.long (8192 : Int64)), (.int (18 : Int32)), (.ref b1), (.ref b1)])) rfl rfl (hb hby at_130)
  have V39 : Arv Z h39 b1 k1 .long (34 : Int32) [(.long (-2147483648 : Int64)), (.long (58 : Int64)), (.long (59 : Int64)), (.long (65 : Int64)), (.long (91 : Int64)), (.long (95 : Int64)), (.long (96 : Int64)), (.long (97 : Int64)), (.long (123 : Int64)), (.long (192 : Int64)), (.long (215 : Int64)), (.long (216 : Int64)), (.long (247 : Int64)), (.long (248 : Int64)), (.long (768 : Int64)), (.long (880 : Int64)), (.long (894 : Int64)), (.long (895 : Int64)), (.long (8192 : Int64)), (.long (0 : Int64)), (.long (0 : Int64)), (.long (0 : Int64)), (.long (0 : Int64)), (.long (0 : Int64)), (.long (0 : Int64)), (.long (0 : Int64)), (.long (0 : Int64)), (.long (0 : Int64)), (.long (0 : Int64)), (.long (0 : Int64)), (.long (0 : Int64)), (.long (0 : Int64)), (.long (0 : Int64)), (.long (0 : Int64))] (.long (0 : Int64)) := Arv.set Ar38 qa38 Sa38 Na38 Ha38 Ga38 rfl W39 18 rfl (Nat.le_of_ble_eq_true rfl)
  obtain ⟨Lo39, X39, N39⟩ : ∃ K, Stand p l e room_1 s m #[(.int i1), (.long i2)] below meth c T39 K 1 34 ∧ Fr n0 K := ⟨_, X39, (Fr.snoc X39 N37 g_b1)⟩
  refine own_step (f' := (mkF m 131 #[.val (.int i1), .val (.long i2), .second, .unset, .unset, .unset, .unset, .unset, .unset, .unset, .unset, .unset, .unset, .unset, .unset, .unset, .unset] [(.ref b1)])) st39 ?_
  refine own_step (f' := (mkF m 132 #[.val (.int i1), .val (.long i2), .second, .unset, .unset, .unset, .unset, .unset, .unset, .unset, .unset, .unset, .unset, .unset, .unset, .unset, .unset] [(.ref b1), (.ref b1)])) (fun _ k => XS.dup X39.here hx rfl (hb hby at_131) rfl rfl k) ?_
  refine own_step (f' := (mkF m 134 #[.val (.int i1), .val (.long i2), .second, .unset, .unset, .unset, .unset, .unset, .unset, .unset, .unset, .unset, .unset, .unset, .unset, .unset, .unset] [(.int (19 : Int32)), (.ref b1), (.ref b1)])) (fun _ k => XS.bipush X39.here hx rfl (hb hby at_132) k) ?_
  refine own_step (f' := (mkF m 137 #[.val (.int i1), .val (.long i2), .second, .unset, .unset, .unset, .unset, .unset, .unset, .unset, .unset, .unset, .unset, .unset, .unset, .unset, .unset] [(.long (8204 : Int64)), (.int (19 : Int32)), (.ref b1), (.ref b1)])) (fun _ k => X39.ldc2Long hx hown (mvT hZ (hw _ (List.mem_of_getElem? (i := 20) rfl))) (g := (mkF m 134 #[.val (.int i1), .val (.long i2), .second, .unset, .unset, .unset, .unset, .unset, .unset, .unset, .unset, .unset, .unset, .unset, .unset, .unset, .unset] [(.int (19 : Int32)), (.ref b1), (.ref b1)])) rfl (hb hby at_134) _ k) ?_
  obtain ⟨cl40, Ar40, qa40, Sa40, Na40, Ha40, Ga40⟩ := id (V39)
  have hin41 : ¬ ((19 : Int32) < 0 ∨ cl40.slots.size ≤ ((19 : Int32)).toNatClampNeg) := inb_of Sa40 ⟨by decide, by decide⟩
  obtain ⟨T41, h41, X41, e41, W41, st41⟩ := stJ X39 hx hZ e39 Ar40 (j := (19 : Int32)) hin41 (g := (mkF m 137 #[.val (.int i1), .val (.long i2), .second, .unset, .unset, .unset, .unset, .unset, .unset, .unset, .unset, .unset, .unset, .unset, .unset, .unset, .unset] [(.long (8204 : Int64)), (.int (19 : Int32)), (.ref b1), (.ref b1)])) rfl rfl (hb hby at_137)
  have V41 : Arv Z h41 b1 k1 .long (34 : Int32) [(.long (-2147483648 : Int64)), (.long (58 : Int64)), (.long (59 : Int64)), (.long (65 : Int64)), (.long (91 : Int64)), (.long (95 : Int64)), (.long (96 : Int64)), (.long (97 : Int64)), (.long (123 : Int64)), (.long (192 : Int64)), (.long (215 : Int64)), (.long (216 : Int64)), (.long (247 : Int64)), (.long (248 : Int64)), (.long (768 : Int64)), (.long (880 : Int64)), (.long (894 : Int64)), (.long (895 : Int64)), (.long (8192 : Int64)), (.long (8204 : Int64)), (.long (0 : Int64)), (.long (0 : Int64)), (.long (0 : Int64)), (.long (0 : Int64)), (.long (0 : Int64)), (.long (0 : Int64)), (.long (0 : Int64)), (.long (0 : Int64)), (.long (0 : Int64)), (.long (0 : Int64)), (.long (0 : Int64)), (.long (0 : Int64)), (.long (0 : Int64)), (.long (0 : Int64))] (.long (0 : Int64)) := Arv.set Ar40 qa40 Sa40 Na40 Ha40 Ga40 rfl W41 19 rfl (Nat.le_of_ble_eq_true rfl)
  obtain ⟨Lo41, X41, N41⟩ : ∃ K, Stand p l e room_1 s m #[(.int i1), (.long i2)] below meth c T41 K 1 34 ∧ Fr n0 K := ⟨_, X41, (Fr.snoc X41 N39 g_b1)⟩
  refine own_step (f' := (mkF m 138 #[.val (.int i1), .val (.long i2), .second, .unset, .unset, .unset, .unset, .unset, .unset, .unset, .unset, .unset, .unset, .unset, .unset, .unset, .unset] [(.ref b1)])) st41 ?_
  refine own_step (f' := (mkF m 139 #[.val (.int i1), .val (.long i2), .second, .unset, .unset, .unset, .unset, .unset, .unset, .unset, .unset, .unset, .unset, .unset, .unset, .unset, .unset] [(.ref b1), (.ref b1)])) (fun _ k => XS.dup X41.here hx rfl (hb hby at_138) rfl rfl k) ?_
  refine own_step (f' := (mkF m 141 #[.val (.int i1), .val (.long i2), .second, .unset, .unset, .unset, .unset, .unset, .unset, .unset, .unset, .unset, .unset, .unset, .unset, .unset, .unset] [(.int (20 : Int32)), (.ref b1), (.ref b1)])) (fun _ k => XS.bipush X41.here hx rfl (hb hby at_139) k) ?_
  refine own_step (f' := (mkF m 144 #[.val (.int i1), .val (.long i2), .second, .unset, .unset, .unset, .unset, .unset, .unset, .unset, .unset, .unset, .unset, .unset, .unset, .unset, .unset] [(.long (8206 : Int64)), (.int (20 : Int32)), (.ref b1), (.ref b1)])) (fun _ k => X41.ldc2Long hx hown (mvT hZ (hw _ (List.mem_of_getElem? (i := 21) rfl))) (g := (mkF m 141 #[.val (.int i1), .val (.long i2), .second, .unset, .unset, .unset, .unset, .unset, .unset, .unset, .unset, .unset, .unset, .unset, .unset, .unset, .unset] [(.int (20 : Int32)), (.ref b1), (.ref b1)])) rfl (hb hby at_141) _ k) ?_
  obtain ⟨cl42, Ar42, qa42, Sa42, Na42, Ha42, Ga42⟩ := id (V41)
  have hin43 : ¬ ((20 : Int32) < 0 ∨ cl42.slots.size ≤ ((20 : Int32)).toNatClampNeg) := inb_of Sa42 ⟨by decide, by decide⟩
  obtain ⟨T43, h43, X43, e43, W43, st43⟩ := stJ X41 hx hZ e41 Ar42 (j := (20 : Int32)) hin43 (g := (mkF m 144 #[.val (.int i1), .val (.long i2), .second, .unset, .unset, .unset, .unset, .unset, .unset, .unset, .unset, .unset, .unset, .unset, .unset, .unset, .unset] [(.long (8206 : Int64)), (.int (20 : Int32)), (.ref b1), (.ref b1)])) rfl rfl (hb hby at_144)
  have V43 : Arv Z h43 b1 k1 .long (34 : Int32) [(.long (-2147483648 : Int64)), (.long (58 : Int64)), (.long (59 : Int64)), (.long (65 : Int64)), (.long (91 : Int64)), (.long (95 : Int64)), (.long (96 : Int64)), (.long (97 : Int64)), (.long (123 : Int64)), (.long (192 : Int64)), (.long (215 : Int64)), (.long (216 : Int64)), (.long (247 : Int64)), (.long (248 : Int64)), (.long (768 : Int64)), (.long (880 : Int64)), (.long (894 : Int64)), (.long (895 : Int64)), (.long (8192 : Int64)), (.long (8204 : Int64)), (.long (8206 : Int64)), (.long (0 : Int64)), (.long (0 : Int64)), (.long (0 : Int64)), (.long (0 : Int64)), (.long (0 : Int64)), (.long (0 : Int64)), (.long (0 : Int64)), (.long (0 : Int64)), (.long (0 : Int64)), (.long (0 : Int64)), (.long (0 : Int64)), (.long (0 : Int64)), (.long (0 : Int64))] (.long (0 : Int64)) := Arv.set Ar42 qa42 Sa42 Na42 Ha42 Ga42 rfl W43 20 rfl (Nat.le_of_ble_eq_true rfl)
  obtain ⟨Lo43, X43, N43⟩ : ∃ K, Stand p l e room_1 s m #[(.int i1), (.long i2)] below meth c T43 K 1 34 ∧ Fr n0 K := ⟨_, X43, (Fr.snoc X43 N41 g_b1)⟩
  refine own_step (f' := (mkF m 145 #[.val (.int i1), .val (.long i2), .second, .unset, .unset, .unset, .unset, .unset, .unset, .unset, .unset, .unset, .unset, .unset, .unset, .unset, .unset] [(.ref b1)])) st43 ?_
  refine own_step (f' := (mkF m 146 #[.val (.int i1), .val (.long i2), .second, .unset, .unset, .unset, .unset, .unset, .unset, .unset, .unset, .unset, .unset, .unset, .unset, .unset, .unset] [(.ref b1), (.ref b1)])) (fun _ k => XS.dup X43.here hx rfl (hb hby at_145) rfl rfl k) ?_
  refine own_step (f' := (mkF m 148 #[.val (.int i1), .val (.long i2), .second, .unset, .unset, .unset, .unset, .unset, .unset, .unset, .unset, .unset, .unset, .unset, .unset, .unset, .unset] [(.int (21 : Int32)), (.ref b1), (.ref b1)])) (fun _ k => XS.bipush X43.here hx rfl (hb hby at_146) k) ?_
  refine own_step (f' := (mkF m 151 #[.val (.int i1), .val (.long i2), .second, .unset, .unset, .unset, .unset, .unset, .unset, .unset, .unset, .unset, .unset, .unset, .unset, .unset, .unset] [(.long (8304 : Int64)), (.int (21 : Int32)), (.ref b1), (.ref b1)])) (fun _ k => X43.ldc2Long hx hown (mvT hZ (hw _ (List.mem_of_getElem? (i := 22) rfl))) (g := (mkF m 148 #[.val (.int i1), .val (.long i2), .second, .unset, .unset, .unset, .unset, .unset, .unset, .unset, .unset, .unset, .unset, .unset, .unset, .unset, .unset] [(.int (21 : Int32)), (.ref b1), (.ref b1)])) rfl (hb hby at_148) _ k) ?_
  obtain ⟨cl44, Ar44, qa44, Sa44, Na44, Ha44, Ga44⟩ := id (V43)
  have hin45 : ¬ ((21 : Int32) < 0 ∨ cl44.slots.size ≤ ((21 : Int32)).toNatClampNeg) := inb_of Sa44 ⟨by decide, by decide⟩
  obtain ⟨T45, h45, X45, e45, W45, st45⟩ := stJ X43 hx hZ e43 Ar44 (j := (21 : Int32)) hin45 (g := (mkF m 151 #[.val (.int i1), .val (.long i2), .second, .unset, .unset, .unset, .unset, .unset, .unset, .unset, .unset, .unset, .unset, .unset, .unset, .unset, .unset] [(.long (8304 : Int64)), (.int (21 : Int32)), (.ref b1), (.ref b1)])) rfl rfl (hb hby at_151)
  have V45 : Arv Z h45 b1 k1 .long (34 : Int32) [(.long (-2147483648 : Int64)), (.long (58 : Int64)), (.long (59 : Int64)), (.long (65 : Int64)), (.long (91 : Int64)), (.long (95 : Int64)), (.long (96 : Int64)), (.long (97 : Int64)), (.long (123 : Int64)), (.long (192 : Int64)), (.long (215 : Int64)), (.long (216 : Int64)), (.long (247 : Int64)), (.long (248 : Int64)), (.long (768 : Int64)), (.long (880 : Int64)), (.long (894 : Int64)), (.long (895 : Int64)), (.long (8192 : Int64)), (.long (8204 : Int64)), (.long (8206 : Int64)), (.long (8304 : Int64)), (.long (0 : Int64)), (.long (0 : Int64)), (.long (0 : Int64)), (.long (0 : Int64)), (.long (0 : Int64)), (.long (0 : Int64)), (.long (0 : Int64)), (.long (0 : Int64)), (.long (0 : Int64)), (.long (0 : Int64)), (.long (0 : Int64)), (.long (0 : Int64))] (.long (0 : Int64)) := Arv.set Ar44 qa44 Sa44 Na44 Ha44 Ga44 rfl W45 21 rfl (Nat.le_of_ble_eq_true rfl)
  obtain ⟨Lo45, X45, N45⟩ : ∃ K, Stand p l e room_1 s m #[(.int i1), (.long i2)] below meth c T45 K 1 34 ∧ Fr n0 K := ⟨_, X45, (Fr.snoc X45 N43 g_b1)⟩
  refine own_step (f' := (mkF m 152 #[.val (.int i1), .val (.long i2), .second, .unset, .unset, .unset, .unset, .unset, .unset, .unset, .unset, .unset, .unset, .unset, .unset, .unset, .unset] [(.ref b1)])) st45 ?_
  refine own_step (f' := (mkF m 153 #[.val (.int i1), .val (.long i2), .second, .unset, .unset, .unset, .unset, .unset, .unset, .unset, .unset, .unset, .unset, .unset, .unset, .unset, .unset] [(.ref b1), (.ref b1)])) (fun _ k => XS.dup X45.here hx rfl (hb hby at_152) rfl rfl k) ?_
  refine own_step (f' := (mkF m 155 #[.val (.int i1), .val (.long i2), .second, .unset, .unset, .unset, .unset, .unset, .unset, .unset, .unset, .unset, .unset, .unset, .unset, .unset, .unset] [(.int (22 : Int32)), (.ref b1), (.ref b1)])) (fun _ k => XS.bipush X45.here hx rfl (hb hby at_153) k) ?_
  refine own_step (f' := (mkF m 158 #[.val (.int i1), .val (.long i2), .second, .unset, .unset, .unset, .unset, .unset, .unset, .unset, .unset, .unset, .unset, .unset, .unset, .unset, .unset] [(.long (8592 : Int64)), (.int (22 : Int32)), (.ref b1), (.ref b1)])) (fun _ k => X45.ldc2Long hx hown (mvT hZ (hw _ (List.mem_of_getElem? (i := 23) rfl))) (g := (mkF m 155 #[.val (.int i1), .val (.long i2), .second, .unset, .unset, .unset, .unset, .unset, .unset, .unset, .unset, .unset, .unset, .unset, .unset, .unset, .unset] [(.int (22 : Int32)), (.ref b1), (.ref b1)])) rfl (hb hby at_155) _ k) ?_
  obtain ⟨cl46, Ar46, qa46, Sa46, Na46, Ha46, Ga46⟩ := id (V45)
  have hin47 : ¬ ((22 : Int32) < 0 ∨ cl46.slots.size ≤ ((22 : Int32)).toNatClampNeg) := inb_of Sa46 ⟨by decide, by decide⟩
  obtain ⟨T47, h47, X47, e47, W47, st47⟩ := stJ X45 hx hZ e45 Ar46 (j := (22 : Int32)) hin47 (g := (mkF m 158 #[.val (.int i1), .val (.long i2), .second, .unset, .unset, .unset, .unset, .unset, .unset, .unset, .unset, .unset, .unset, .unset, .unset, .unset, .unset] [(.long (8592 : Int64)), (.int (22 : Int32)), (.ref b1), (.ref b1)])) rfl rfl (hb hby at_158)
  have V47 : Arv Z h47 b1 k1 .long (34 : Int32) [(.long (-2147483648 : Int64)), (.long (58 : Int64)), (.long (59 : Int64)), (.long (65 : Int64)), (.long (91 : Int64)), (.long (95 : Int64)), (.long (96 : Int64)), (.long (97 : Int64)), (.long (123 : Int64)), (.long (192 : Int64)), (.long (215 : Int64)), (.long (216 : Int64)), (.long (247 : Int64)), (.long (248 : Int64)), (.long (768 : Int64)), (.long (880 : Int64)), (.long (894 : Int64)), (.long (895 : Int64)), (.long (8192 : Int64)), (.long (8204 : Int64)), (.long (8206 : Int64)), (.long (8304 : Int64)), (.long (8592 : Int64)), (.long (0 : Int64)), (.long (0 : Int64)), (.long (0 : Int64)), (.long (0 : Int64)), (.long (0 : Int64)), (.long (0 : Int64)), (.long (0 : Int64)), (.long (0 : Int64)), (.long (0 : Int64)), (.long (0 : Int64)), (.long (0 : Int64))] (.long (0 : Int64)) := Arv.set Ar46 qa46 Sa46 Na46 Ha46 Ga46 rfl W47 22 rfl (Nat.le_of_ble_eq_true rfl)
  obtain ⟨Lo47, X47, N47⟩ : ∃ K, Stand p l e room_1 s m #[(.int i1), (.long i2)] below meth c T47 K 1 34 ∧ Fr n0 K := ⟨_, X47, (Fr.snoc X47 N45 g_b1)⟩
  refine own_step (f' := (mkF m 159 #[.val (.int i1), .val (.long i2), .second, .unset, .unset, .unset, .unset, .unset, .unset, .unset, .unset, .unset, .unset, .unset, .unset, .unset, .unset] [(.ref b1)])) st47 ?_
  refine own_step (f' := (mkF m 160 #[.val (.int i1), .val (.long i2), .second, .unset, .unset, .unset, .unset, .unset, .unset, .unset, .unset, .unset, .unset, .unset, .unset, .unset, .unset] [(.ref b1), (.ref b1)])) (fun _ k => XS.dup X47.here hx rfl (hb hby at_159) rfl rfl k) ?_
  refine own_step (f' := (mkF m 162 #[.val (.int i1), .val (.long i2), .second, .unset, .unset, .unset, .unset, .unset, .unset, .unset, .unset, .unset, .unset, .unset, .unset, .unset, .unset] [(.int (23 : Int32)), (.ref b1), (.ref b1)])) (fun _ k => XS.bipush X47.here hx rfl (hb hby at_160) k) ?_
  refine own_step (f' := (mkF m 165 #[.val (.int i1), .val (.long i2), .second, .unset, .unset, .unset, .unset, .unset, .unset, .unset, .unset, .unset, .unset, .unset, .unset, .unset, .unset] [(.long (11264 : Int64)), (.int (23 : Int32)), (.ref b1), (.ref b1)])) (fun _ k => X47.ldc2Long hx hown (mvT hZ (hw _ (List.mem_of_getElem? (i := 24) rfl))) (g := (mkF m 162 #[.val (.int i1), .val (.long i2), .second, .unset, .unset, .unset, .unset, .unset, .unset, .unset, .unset, .unset, .unset, .unset, .unset, .unset, .unset] [(.int (23 : Int32)), (.ref b1), (.ref b1)])) rfl (hb hby at_162) _ k) ?_
  obtain ⟨cl48, Ar48, qa48, Sa48, Na48, Ha48, Ga48⟩ := id (V47)
  have hin49 : ¬ ((23 : Int32) < 0 ∨ cl48.slots.size ≤ ((23 : Int32)).toNatClampNeg) := inb_of Sa48 ⟨by decide, by decide⟩
  obtain ⟨T49, h49, X49, e49, W49, st49⟩ := stJ X47 hx hZ e47 Ar48 (j := (23 : Int32)) hin49 (g := (mkF m 165 #[.val (.int i1), .val (.long i2), .second, .unset, .unset, .unset, .unset, .unset, .unset, .unset, .unset, .unset, .unset, .unset, .unset, .unset, .unset] [(.long (11264 : Int64)), (.int (23 : Int32)), (.ref b1), (.ref b1)])) rfl rfl (hb hby at_165)
  have V49 : Arv Z h49 b1 k1 .long (34 : Int32) [(.long (-2147483648 : Int64)), (.long (58 : Int64)), (.long (59 : Int64)), (.long (65 : Int64)), (.long (91 : Int64)), (.long (95 : Int64)), (.long (96 : Int64)), (.long (97 : Int64)), (.long (123 : Int64)), (.long (192 : Int64)), (.long (215 : Int64)), (.long (216 : Int64)), (.long (247 : Int64)), (.long (248 : Int64)), (.long (768 : Int64)), (.long (880 : Int64)), (.long (894 : Int64)), (.long (895 : Int64)), (.long (8192 : Int64)), (.long (8204 : Int64)), (.long (8206 : Int64)), (.long (8304 : Int64)), (.long (8592 : Int64)), (.long (11264 : Int64)), (.long (0 : Int64)), (.long (0 : Int64)), (.long (0 : Int64)), (.long (0 : Int64)), (.long (0 : Int64)), (.long (0 : Int64)), (.long (0 : Int64)), (.long (0 : Int64)), (.long (0 : Int64)), (.long (0 : Int64))] (.long (0 : Int64)) := Arv.set Ar48 qa48 Sa48 Na48 Ha48 Ga48 rfl W49 23 rfl (Nat.le_of_ble_eq_true rfl)
  obtain ⟨Lo49, X49, N49⟩ : ∃ K, Stand p l e room_1 s m #[(.int i1), (.long i2)] below meth c T49 K 1 34 ∧ Fr n0 K := ⟨_, X49, (Fr.snoc X49 N47 g_b1)⟩
  refine own_step (f' := (mkF m 166 #[.val (.int i1), .val (.long i2), .second, .unset, .unset, .unset, .unset, .unset, .unset, .unset, .unset, .unset, .unset, .unset, .unset, .unset, .unset] [(.ref b1)])) st49 ?_
  refine own_step (f' := (mkF m 167 #[.val (.int i1), .val (.long i2), .second, .unset, .unset, .unset, .unset, .unset, .unset, .unset, .unset, .unset, .unset, .unset, .unset, .unset, .unset] [(.ref b1), (.ref b1)])) (fun _ k => XS.dup X49.here hx rfl (hb hby at_166) rfl rfl k) ?_
  refine own_step (f' := (mkF m 169 #[.val (.int i1), .val (.long i2), .second, .unset, .unset, .unset, .unset, .unset, .unset, .unset, .unset, .unset, .unset, .unset, .unset, .unset, .unset] [(.int (24 : Int32)), (.ref b1), (.ref b1)])) (fun _ k => XS.bipush X49.here hx rfl (hb hby at_167) k) ?_
  refine own_step (f' := (mkF m 172 #[.val (.int i1), .val (.long i2), .second, .unset, .unset, .unset, .unset, .unset, .unset, .unset, .unset, .unset, .unset, .unset, .unset, .unset, .unset] [(.long (12272 : Int64)), (.int (24 : Int32)), (.ref b1), (.ref b1)])) (fun _ k => X49.ldc2Long hx hown (mvT hZ (hw _ (List.mem_of_getElem? (i := 25) rfl))) (g := (mkF m 169 #[.val (.int i1), .val (.long i2), .second, .unset, .unset, .unset, .unset, .unset, .unset, .unset, .unset, .unset, .unset, .unset, .unset, .unset, .unset] [(.int (24 : Int32)), (.ref b1), (.ref b1)])) rfl (hb hby at_169) _ k) ?_
  obtain ⟨cl50, Ar50, qa50, Sa50, Na50, Ha50, Ga50⟩ := id (V49)
  have hin51 : ¬ ((24 : Int32) < 0 ∨ cl50.slots.size ≤ ((24 : Int32)).toNatClampNeg) := inb_of Sa50 ⟨by decide, by decide⟩
  obtain ⟨T51, h51, X51, e51, W51, st51⟩ := stJ X49 hx hZ e49 Ar50 (j := (24 : Int32)) hin51 (g := (mkF m 172 #[.val (.int i1), .val (.long i2), .second, .unset, .unset, .unset, .unset, .unset, .unset, .unset, .unset, .unset, .unset, .unset, .unset, .unset, .unset] [(.long (12272 : Int64)), (.int (24 : Int32)), (.ref b1), (.ref b1)])) rfl rfl (hb hby at_172)
  have V51 : Arv Z h51 b1 k1 .long (34 : Int32) [(.long (-2147483648 : Int64)), (.long (58 : Int64)), (.long (59 : Int64)), (.long (65 : Int64)), (.long (91 : Int64)), (.long (95 : Int64)), (.long (96 : Int64)), (.long (97 : Int64)), (.long (123 : Int64)), (.long (192 : Int64)), (.long (215 : Int64)), (.long (216 : Int64)), (.long (247 : Int64)), (.long (248 : Int64)), (.long (768 : Int64)), (.long (880 : Int64)), (.long (894 : Int64)), (.long (895 : Int64)), (.long (8192 : Int64)), (.long (8204 : Int64)), (.long (8206 : Int64)), (.long (8304 : Int64)), (.long (8592 : Int64)), (.long (11264 : Int64)), (.long (12272 : Int64)), (.long (0 : Int64)), (.long (0 : Int64)), (.long (0 : Int64)), (.long (0 : Int64)), (.long (0 : Int64)), (.long (0 : Int64)), (.long (0 : Int64)), (.long (0 : Int64)), (.long (0 : Int64))] (.long (0 : Int64)) := Arv.set Ar50 qa50 Sa50 Na50 Ha50 Ga50 rfl W51 24 rfl (Nat.le_of_ble_eq_true rfl)
  obtain ⟨Lo51, X51, N51⟩ : ∃ K, Stand p l e room_1 s m #[(.int i1), (.long i2)] below meth c T51 K 1 34 ∧ Fr n0 K := ⟨_, X51, (Fr.snoc X51 N49 g_b1)⟩
  refine own_step (f' := (mkF m 173 #[.val (.int i1), .val (.long i2), .second, .unset, .unset, .unset, .unset, .unset, .unset, .unset, .unset, .unset, .unset, .unset, .unset, .unset, .unset] [(.ref b1)])) st51 ?_
  refine own_step (f' := (mkF m 174 #[.val (.int i1), .val (.long i2), .second, .unset, .unset, .unset, .unset, .unset, .unset, .unset, .unset, .unset, .unset, .unset, .unset, .unset, .unset] [(.ref b1), (.ref b1)])) (fun _ k => XS.dup X51.here hx rfl (hb hby at_173) rfl rfl k) ?_
  refine own_step (f' := (mkF m 176 #[.val (.int i1), .val (.long i2), .second, .unset, .unset, .unset, .unset, .unset, .unset, .unset, .unset, .unset, .unset, .unset, .unset, .unset, .unset] [(.int (25 : Int32)), (.ref b1), (.ref b1)])) (fun _ k => XS.bipush X51.here hx rfl (hb hby at_174) k) ?_
  refine own_step (f' := (mkF m 179 #[.val (.int i1), .val (.long i2), .second, .unset, .unset, .unset, .unset, .unset, .unset, .unset, .unset, .unset, .unset, .unset, .unset, .unset, .unset] [(.long (12289 : Int64)), (.int (25 : Int32)), (.ref b1), (.ref b1)])) (fun _ k => X51.ldc2Long hx hown (mvT hZ (hw _ (List.mem_of_getElem? (i := 26) rfl))) (g := (mkF m 176 #[.val (.int i1), .val (.long i2), .second, .unset, .unset, .unset, .unset, .unset, .unset, .unset, .unset, .unset, .unset, .unset, .unset, .unset, .unset] [(.int (25 : Int32)), (.ref b1), (.ref b1)])) rfl (hb hby at_176) _ k) ?_
  obtain ⟨cl52, Ar52, qa52, Sa52, Na52, Ha52, Ga52⟩ := id (V51)
  have hin53 : ¬ ((25 : Int32) < 0 ∨ cl52.slots.size ≤ ((25 : Int32)).toNatClampNeg) := inb_of Sa52 ⟨by decide, by decide⟩
  obtain ⟨T53, h53, X53, e53, W53, st53⟩ := stJ X51 hx hZ e51 Ar52 (j := (25 : Int32)) hin53 (g := (mkF m 179 #[.val (.int i1), .val (.long i2), .second, .unset, .unset, .unset, .unset, .unset, .unset, .unset, .unset, .unset, .unset, .unset, .unset, .unset, .unset] [(.long (12289 : Int64)), (.int (25 : Int32)), (.ref b1), (.ref b1)])) rfl rfl (hb hby at_179)
  have V53 : Arv Z h53 b1 k1 .long (34 : Int32) [(.long (-2147483648 : Int64)), (.long (58 : Int64)), (.long (59 : Int64)), (.long (65 : Int64)), (.long (91 : Int64)), (.long (95 : Int64)), (.long (96 : Int64)), (.long (97 : Int64)), (.long (123 : Int64)), (.long (192 : Int64)), (.long (215 : Int64)), (.long (216 : Int64)), (.long (247 : Int64)), (.long (248 : Int64)), (.long (768 : Int64)), (.long (880 : Int64)), (.long (894 : Int64)), (.long (895 : Int64)), (.long (8192 : Int64)), (.long (8204 : Int64)), (.long (8206 : Int64)), (.long (8304 : Int64)), (.long (8592 : Int64)), (.long (11264 : Int64)), (.long (12272 : Int64)), (.long (12289 : Int64)), (.long (0 : Int64)), (.long (0 : Int64)), (.long (0 : Int64)), (.long (0 : Int64)), (.long (0 : Int64)), (.long (0 : Int64)), (.long (0 : Int64)), (.long (0 : Int64))] (.long (0 : Int64)) := Arv.set Ar52 qa52 Sa52 Na52 Ha52 Ga52 rfl W53 25 rfl (Nat.le_of_ble_eq_true rfl)
  obtain ⟨Lo53, X53, N53⟩ : ∃ K, Stand p l e room_1 s m #[(.int i1), (.long i2)] below meth c T53 K 1 34 ∧ Fr n0 K := ⟨_, X53, (Fr.snoc X53 N51 g_b1)⟩
  refine own_step (f' := (mkF m 180 #[.val (.int i1), .val (.long i2), .second, .unset, .unset, .unset, .unset, .unset, .unset, .unset, .unset, .unset, .unset, .unset, .unset, .unset, .unset] [(.ref b1)])) st53 ?_
  refine own_step (f' := (mkF m 181 #[.val (.int i1), .val (.long i2), .second, .unset, .unset, .unset, .unset, .unset, .unset, .unset, .unset, .unset, .unset, .unset, .unset, .unset, .unset] [(.ref b1), (.ref b1)])) (fun _ k => XS.dup X53.here hx rfl (hb hby at_180) rfl rfl k) ?_
  refine own_step (f' := (mkF m 183 #[.val (.int i1), .val (.long i2), .second, .unset, .unset, .unset, .unset, .unset, .unset, .unset, .unset, .unset, .unset, .unset, .unset, .unset, .unset] [(.int (26 : Int32)), (.ref b1), (.ref b1)])) (fun _ k => XS.bipush X53.here hx rfl (hb hby at_181) k) ?_
  refine own_step (f' := (mkF m 186 #[.val (.int i1), .val (.long i2), .second, .unset, .unset, .unset, .unset, .unset, .unset, .unset, .unset, .unset, .unset, .unset, .unset, .unset, .unset] [(.long (55296 : Int64)), (.int (26 : Int32)), (.ref b1), (.ref b1)])) (fun _ k => X53.ldc2Long hx hown (mvT hZ (hw _ (List.mem_of_getElem? (i := 27) rfl))) (g := (mkF m 183 #[.val (.int i1), .val (.long i2), .second, .unset, .unset, .unset, .unset, .unset, .unset, .unset, .unset, .unset, .unset, .unset, .unset, .unset, .unset] [(.int (26 : Int32)), (.ref b1), (.ref b1)])) rfl (hb hby at_183) _ k) ?_
  obtain ⟨cl54, Ar54, qa54, Sa54, Na54, Ha54, Ga54⟩ := id (V53)
  have hin55 : ¬ ((26 : Int32) < 0 ∨ cl54.slots.size ≤ ((26 : Int32)).toNatClampNeg) := inb_of Sa54 ⟨by decide, by decide⟩
  obtain ⟨T55, h55, X55, e55, W55, st55⟩ := stJ X53 hx hZ e53 Ar54 (j := (26 : Int32)) hin55 (g := (mkF m 186 #[.val (.int i1), .val (.long i2), .second, .unset, .unset, .unset, .unset, .unset, .unset, .unset, .unset, .unset, .unset, .unset, .unset, .unset, .unset] [(.long (55296 : Int64)), (.int (26 : Int32)), (.ref b1), (.ref b1)])) rfl rfl (hb hby at_186)
  have V55 : Arv Z h55 b1 k1 .long (34 : Int32) [(.long (-2147483648 : Int64)), (.long (58 : Int64)), (.long (59 : Int64)), (.long (65 : Int64)), (.long (91 : Int64)), (.long (95 : Int64)), (.long (96 : Int64)), (.long (97 : Int64)), (.long (123 : Int64)), (.long (192 : Int64)), (.long (215 : Int64)), (.long (216 : Int64)), (.long (247 : Int64)), (.long (248 : Int64)), (.long (768 : Int64)), (.long (880 : Int64)), (.long (894 : Int64)), (.long (895 : Int64)), (.long (8192 : Int64)), (.long (8204 : Int64)), (.long (8206 : Int64)), (.long (8304 : Int64)), (.long (8592 : Int64)), (.long (11264 : Int64)), (.long (12272 : Int64)), (.long (12289 : Int64)), (.long (55296 : Int64)), (.long (0 : Int64)), (.long (0 : Int64)), (.long (0 : Int64)), (.long (0 : Int64)), (.long (0 : Int64)), (.long (0 : Int64)), (.long (0 : Int64))] (.long (0 : Int64)) := Arv.set Ar54 qa54 Sa54 Na54 Ha54 Ga54 rfl W55 26 rfl (Nat.le_of_ble_eq_true rfl)
  obtain ⟨Lo55, X55, N55⟩ : ∃ K, Stand p l e room_1 s m #[(.int i1), (.long i2)] below meth c T55 K 1 34 ∧ Fr n0 K := ⟨_, X55, (Fr.snoc X55 N53 g_b1)⟩
  refine own_step (f' := (mkF m 187 #[.val (.int i1), .val (.long i2), .second, .unset, .unset, .unset, .unset, .unset, .unset, .unset, .unset, .unset, .unset, .unset, .unset, .unset, .unset] [(.ref b1)])) st55 ?_
  refine own_step (f' := (mkF m 188 #[.val (.int i1), .val (.long i2), .second, .unset, .unset, .unset, .unset, .unset, .unset, .unset, .unset, .unset, .unset, .unset, .unset, .unset, .unset] [(.ref b1), (.ref b1)])) (fun _ k => XS.dup X55.here hx rfl (hb hby at_187) rfl rfl k) ?_
  refine own_step (f' := (mkF m 190 #[.val (.int i1), .val (.long i2), .second, .unset, .unset, .unset, .unset, .unset, .unset, .unset, .unset, .unset, .unset, .unset, .unset, .unset, .unset] [(.int (27 : Int32)), (.ref b1), (.ref b1)])) (fun _ k => XS.bipush X55.here hx rfl (hb hby at_188) k) ?_
  refine own_step (f' := (mkF m 193 #[.val (.int i1), .val (.long i2), .second, .unset, .unset, .unset, .unset, .unset, .unset, .unset, .unset, .unset, .unset, .unset, .unset, .unset, .unset] [(.long (63744 : Int64)), (.int (27 : Int32)), (.ref b1), (.ref b1)])) (fun _ k => X55.ldc2Long hx hown (mvT hZ (hw _ (List.mem_of_getElem? (i := 28) rfl))) (g := (mkF m 190 #[.val (.int i1), .val (.long i2), .second, .unset, .unset, .unset, .unset, .unset, .unset, .unset, .unset, .unset, .unset, .unset, .unset, .unset, .unset] [(.int (27 : Int32)), (.ref b1), (.ref b1)])) rfl (hb hby at_190) _ k) ?_
  obtain ⟨cl56, Ar56, qa56, Sa56, Na56, Ha56, Ga56⟩ := id (V55)
  have hin57 : ¬ ((27 : Int32) < 0 ∨ cl56.slots.size ≤ ((27 : Int32)).toNatClampNeg) := inb_of Sa56 ⟨by decide, by decide⟩
  obtain ⟨T57, h57, X57, e57, W57, st57⟩ := stJ X55 hx hZ e55 Ar56 (j := (27 : Int32)) hin57 (g := (mkF m 193 #[.val (.int i1), .val (.long i2), .second, .unset, .unset, .unset, .unset, .unset, .unset, .unset, .unset, .unset, .unset, .unset, .unset, .unset, .unset] [(.long (63744 : Int64)), (.int (27 : Int32)), (.ref b1), (.ref b1)])) rfl rfl (hb hby at_193)
  have V57 : Arv Z h57 b1 k1 .long (34 : Int32) [(.long (-2147483648 : Int64)), (.long (58 : Int64)), (.long (59 : Int64)), (.long (65 : Int64)), (.long (91 : Int64)), (.long (95 : Int64)), (.long (96 : Int64)), (.long (97 : Int64)), (.long (123 : Int64)), (.long (192 : Int64)), (.long (215 : Int64)), (.long (216 : Int64)), (.long (247 : Int64)), (.long (248 : Int64)), (.long (768 : Int64)), (.long (880 : Int64)), (.long (894 : Int64)), (.long (895 : Int64)), (.long (8192 : Int64)), (.long (8204 : Int64)), (.long (8206 : Int64)), (.long (8304 : Int64)), (.long (8592 : Int64)), (.long (11264 : Int64)), (.long (12272 : Int64)), (.long (12289 : Int64)), (.long (55296 : Int64)), (.long (63744 : Int64)), (.long (0 : Int64)), (.long (0 : Int64)), (.long (0 : Int64)), (.long (0 : Int64)), (.long (0 : Int64)), (.long (0 : Int64))] (.long (0 : Int64)) := Arv.set Ar56 qa56 Sa56 Na56 Ha56 Ga56 rfl W57 27 rfl (Nat.le_of_ble_eq_true rfl)
  obtain ⟨Lo57, X57, N57⟩ : ∃ K, Stand p l e room_1 s m #[(.int i1), (.long i2)] below meth c T57 K 1 34 ∧ Fr n0 K := ⟨_, X57, (Fr.snoc X57 N55 g_b1)⟩
  refine own_step (f' := (mkF m 194 #[.val (.int i1), .val (.long i2), .second, .unset, .unset, .unset, .unset, .unset, .unset, .unset, .unset, .unset, .unset, .unset, .unset, .unset, .unset] [(.ref b1)])) st57 ?_
  refine own_step (f' := (mkF m 195 #[.val (.int i1), .val (.long i2), .second, .unset, .unset, .unset, .unset, .unset, .unset, .unset, .unset, .unset, .unset, .unset, .unset, .unset, .unset] [(.ref b1), (.ref b1)])) (fun _ k => XS.dup X57.here hx rfl (hb hby at_194) rfl rfl k) ?_
  refine own_step (f' := (mkF m 197 #[.val (.int i1), .val (.long i2), .second, .unset, .unset, .unset, .unset, .unset, .unset, .unset, .unset, .unset, .unset, .unset, .unset, .unset, .unset] [(.int (28 : Int32)), (.ref b1), (.ref b1)])) (fun _ k => XS.bipush X57.here hx rfl (hb hby at_195) k) ?_
  refine own_step (f' := (mkF m 200 #[.val (.int i1), .val (.long i2), .second, .unset, .unset, .unset, .unset, .unset, .unset, .unset, .unset, .unset, .unset, .unset, .unset, .unset, .unset] [(.long (64976 : Int64)), (.int (28 : Int32)), (.ref b1), (.ref b1)])) (fun _ k => X57.ldc2Long hx hown (mvT hZ (hw _ (List.mem_of_getElem? (i := 29) rfl))) (g := (mkF m 197 #[.val (.int i1), .val (.long i2), .second, .unset, .unset, .unset, .unset, .unset, .unset, .unset, .unset, .unset, .unset, .unset, .unset, .unset, .unset] [(.int (28 : Int32)), (.ref b1), (.ref b1)])) rfl (hb hby at_197) _ k) ?_
  obtain ⟨cl58, Ar58, qa58, Sa58, Na58, Ha58, Ga58⟩ := id (V57)
  have hin59 : ¬ ((28 : Int32) < 0 ∨ cl58.slots.size ≤ ((28 : Int32)).toNatClampNeg) := inb_of Sa58 ⟨by decide, by decide⟩
  obtain ⟨T59, h59, X59, e59, W59, st59⟩ := stJ X57 hx hZ e57 Ar58 (j := (28 : Int32)) hin59 (g := (mkF m 200 #[.val (.int i1), .val (.long i2), .second, .unset, .unset, .unset, .unset, .unset, .unset, .unset, .unset, .unset, .unset, .unset, .unset, .unset, .unset] [(.long (64976 : Int64)), (.int (28 : Int32)), (.ref b1), (.ref b1)])) rfl rfl (hb hby at_200)
  have V59 : Arv Z h59 b1 k1 .long (34 : Int32) [(.long (-2147483648 : Int64)), (.long (58 : Int64)), (.long (59 : Int64)), (.long (65 : Int64)), (.long (91 : Int64)), (.long (95 : Int64)), (.long (96 : Int64)), (.long (97 : Int64)), (.long (123 : Int64)), (.long (192 : Int64)), (.long (215 : Int64)), (.long (216 : Int64)), (.long (247 : Int64)), (.long (248 : Int64)), (.long (768 : Int64)), (.long (880 : Int64)), (.long (894 : Int64)), (.long (895 : Int64)), (.long (8192 : Int64)), (.long (8204 : Int64)), (.long (8206 : Int64)), (.long (8304 : Int64)), (.long (8592 : Int64)), (.long (11264 : Int64)), (.long (12272 : Int64)), (.long (12289 : Int64)), (.long (55296 : Int64)), (.long (63744 : Int64)), (.long (64976 : Int64)), (.long (0 : Int64)), (.long (0 : Int64)), (.long (0 : Int64)), (.long (0 : Int64)), (.long (0 : Int64))] (.long (0 : Int64)) := Arv.set Ar58 qa58 Sa58 Na58 Ha58 Ga58 rfl W59 28 rfl (Nat.le_of_ble_eq_true rfl)
  obtain ⟨Lo59, X59, N59⟩ : ∃ K, Stand p l e room_1 s m #[(.int i1), (.long i2)] below meth c T59 K 1 34 ∧ Fr n0 K := ⟨_, X59, (Fr.snoc X59 N57 g_b1)⟩
  refine own_step (f' := (mkF m 201 #[.val (.int i1), .val (.long i2), .second, .unset, .unset, .unset, .unset, .unset, .unset, .unset, .unset, .unset, .unset, .unset, .unset, .unset, .unset] [(.ref b1)])) st59 ?_
  refine own_step (f' := (mkF m 202 #[.val (.int i1), .val (.long i2), .second, .unset, .unset, .unset, .unset, .unset, .unset, .unset, .unset, .unset, .unset, .unset, .unset, .unset, .unset] [(.ref b1), (.ref b1)])) (fun _ k => XS.dup X59.here hx rfl (hb hby at_201) rfl rfl k) ?_
  refine own_step (f' := (mkF m 204 #[.val (.int i1), .val (.long i2), .second, .unset, .unset, .unset, .unset, .unset, .unset, .unset, .unset, .unset, .unset, .unset, .unset, .unset, .unset] [(.int (29 : Int32)), (.ref b1), (.ref b1)])) (fun _ k => XS.bipush X59.here hx rfl (hb hby at_202) k) ?_
  refine own_step (f' := (mkF m 207 #[.val (.int i1), .val (.long i2), .second, .unset, .unset, .unset, .unset, .unset, .unset, .unset, .unset, .unset, .unset, .unset, .unset, .unset, .unset] [(.long (65008 : Int64)), (.int (29 : Int32)), (.ref b1), (.ref b1)])) (fun _ k => X59.ldc2Long hx hown (mvT hZ (hw _ (List.mem_of_getElem? (i := 30) rfl))) (g := (mkF m 204 #[.val (.int i1), .val (.long i2), .second, .unset, .unset, .unset, .unset, .unset, .unset, .unset, .unset, .unset, .unset, .unset, .unset, .unset, .unset] [(.int (29 : Int32)), (.ref b1), (.ref b1)])) rfl (hb hby at_204) _ k) ?_
  obtain ⟨cl60, Ar60, qa60, Sa60, Na60, Ha60, Ga60⟩ := id (V59)
  have hin61 : ¬ ((29 : Int32) < 0 ∨ cl60.slots.size ≤ ((29 : Int32)).toNatClampNeg) := inb_of Sa60 ⟨by decide, by decide⟩
  obtain ⟨T61, h61, X61, e61, W61, st61⟩ := stJ X59 hx hZ e59 Ar60 (j := (29 : Int32)) hin61 (g := (mkF m 207 #[.val (.int i1), .val (.long i2), .second, .unset, .unset, .unset, .unset, .unset, .unset, .unset, .unset, .unset, .unset, .unset, .unset, .unset, .unset] [(.long (65008 : Int64)), (.int (29 : Int32)), (.ref b1), (.ref b1)])) rfl rfl (hb hby at_207)
  have V61 : Arv Z h61 b1 k1 .long (34 : Int32) [(.long (-2147483648 : Int64)), (.long (58 : Int64)), (.long (59 : Int64)), (.long (65 : Int64)), (.long (91 : Int64)), (.long (95 : Int64)), (.long (96 : Int64)), (.long (97 : Int64)), (.long (123 : Int64)), (.long (192 : Int64)), (.long (215 : Int64)), (.long (216 : Int64)), (.long (247 : Int64)), (.long (248 : Int64)), (.long (768 : Int64)), (.long (880 : Int64)), (.long (894 : Int64)), (.long (895 : Int64)), (.long (8192 : Int64)), (.long (8204 : Int64)), (.long (8206 : Int64)), (.long (8304 : Int64)), (.long (8592 : Int64)), (.long (11264 : Int64)), (.long (12272 : Int64)), (.long (12289 : Int64)), (.long (55296 : Int64)), (.long (63744 : Int64)), (.long (64976 : Int64)), (.long (65008 : Int64)), (.long (0 : Int64)), (.long (0 : Int64)), (.long (0 : Int64)), (.long (0 : Int64))] (.long (0 : Int64)) := Arv.set Ar60 qa60 Sa60 Na60 Ha60 Ga60 rfl W61 29 rfl (Nat.le_of_ble_eq_true rfl)
  obtain ⟨Lo61, X61, N61⟩ : ∃ K, Stand p l e room_1 s m #[(.int i1), (.long i2)] below meth c T61 K 1 34 ∧ Fr n0 K := ⟨_, X61, (Fr.snoc X61 N59 g_b1)⟩
  refine own_step (f' := (mkF m 208 #[.val (.int i1), .val (.long i2), .second, .unset, .unset, .unset, .unset, .unset, .unset, .unset, .unset, .unset, .unset, .unset, .unset, .unset, .unset] [(.ref b1)])) st61 ?_
  refine own_step (f' := (mkF m 209 #[.val (.int i1), .val (.long i2), .second, .unset, .unset, .unset, .unset, .unset, .unset, .unset, .unset, .unset, .unset, .unset, .unset, .unset, .unset] [(.ref b1), (.ref b1)])) (fun _ k => XS.dup X61.here hx rfl (hb hby at_208) rfl rfl k) ?_
  refine own_step (f' := (mkF m 211 #[.val (.int i1), .val (.long i2), .second, .unset, .unset, .unset, .unset, .unset, .unset, .unset, .unset, .unset, .unset, .unset, .unset, .unset, .unset] [(.int (30 : Int32)), (.ref b1), (.ref b1)])) (fun _ k => XS.bipush X61.here hx rfl (hb hby at_209) k) ?_
  refine own_step (f' := (mkF m 214 #[.val (.int i1), .val (.long i2), .second, .unset, .unset, .unset, .unset, .unset, .unset, .unset, .unset, .unset, .unset, .unset, .unset, .unset, .unset] [(.long (65534 : Int64)), (.int (30 : Int32)), (.ref b1), (.ref b1)])) (fun _ k => X61.ldc2Long hx hown (mvT hZ (hw _ (List.mem_of_getElem? (i := 31) rfl))) (g := (mkF m 211 #[.val (.int i1), .val (.long i2), .second, .unset, .unset, .unset, .unset, .unset, .unset, .unset, .unset, .unset, .unset, .unset, .unset, .unset, .unset] [(.int (30 : Int32)), (.ref b1), (.ref b1)])) rfl (hb hby at_211) _ k) ?_
  obtain ⟨cl62, Ar62, qa62, Sa62, Na62, Ha62, Ga62⟩ := id (V61)
  have hin63 : ¬ ((30 : Int32) < 0 ∨ cl62.slots.size ≤ ((30 : Int32)).toNatClampNeg) := inb_of Sa62 ⟨by decide, by decide⟩
  obtain ⟨T63, h63, X63, e63, W63, st63⟩ := stJ X61 hx hZ e61 Ar62 (j := (30 : Int32)) hin63 (g := (mkF m 214 #[.val (.int i1), .val (.long i2), .second, .unset, .unset, .unset, .unset, .unset, .unset, .unset, .unset, .unset, .unset, .unset, .unset, .unset, .unset] [(.long (65534 : Int64)), (.int (30 : Int32)), (.ref b1), (.ref b1)])) rfl rfl (hb hby at_214)
  have V63 : Arv Z h63 b1 k1 .long (34 : Int32) [(.long (-2147483648 : Int64)), (.long (58 : Int64)), (.long (59 : Int64)), (.long (65 : Int64)), (.long (91 : Int64)), (.long (95 : Int64)), (.long (96 : Int64)), (.long (97 : Int64)), (.long (123 : Int64)), (.long (192 : Int64)), (.long (215 : Int64)), (.long (216 : Int64)), (.long (247 : Int64)), (.long (248 : Int64)), (.long (768 : Int64)), (.long (880 : Int64)), (.long (894 : Int64)), (.long (895 : Int64)), (.long (8192 : Int64)), (.long (8204 : Int64)), (.long (8206 : Int64)), (.long (8304 : Int64)), (.long (8592 : Int64)), (.long (11264 : Int64)), (.long (12272 : Int64)), (.long (12289 : Int64)), (.long (55296 : Int64)), (.long (63744 : Int64)), (.long (64976 : Int64)), (.long (65008 : Int64)), (.long (65534 : Int64)), (.long (0 : Int64)), (.long (0 : Int64)), (.long (0 : Int64))] (.long (0 : Int64)) := Arv.set Ar62 qa62 Sa62 Na62 Ha62 Ga62 rfl W63 30 rfl (Nat.le_of_ble_eq_true rfl)
  obtain ⟨Lo63, X63, N63⟩ : ∃ K, Stand p l e room_1 s m #[(.int i1), (.long i2)] below meth c T63 K 1 34 ∧ Fr n0 K := ⟨_, X63, (Fr.snoc X63 N61 g_b1)⟩
  refine own_step (f' := (mkF m 215 #[.val (.int i1), .val (.long i2), .second, .unset, .unset, .unset, .unset, .unset, .unset, .unset, .unset, .unset, .unset, .unset, .unset, .unset, .unset] [(.ref b1)])) st63 ?_
  refine own_step (f' := (mkF m 216 #[.val (.int i1), .val (.long i2), .second, .unset, .unset, .unset, .unset, .unset, .unset, .unset, .unset, .unset, .unset, .unset, .unset, .unset, .unset] [(.ref b1), (.ref b1)])) (fun _ k => XS.dup X63.here hx rfl (hb hby at_215) rfl rfl k) ?_
  refine own_step (f' := (mkF m 218 #[.val (.int i1), .val (.long i2), .second, .unset, .unset, .unset, .unset, .unset, .unset, .unset, .unset, .unset, .unset, .unset, .unset, .unset, .unset] [(.int (31 : Int32)), (.ref b1), (.ref b1)])) (fun _ k => XS.bipush X63.here hx rfl (hb hby at_216) k) ?_
  refine own_step (f' := (mkF m 221 #[.val (.int i1), .val (.long i2), .second, .unset, .unset, .unset, .unset, .unset, .unset, .unset, .unset, .unset, .unset, .unset, .unset, .unset, .unset] [(.long (65536 : Int64)), (.int (31 : Int32)), (.ref b1), (.ref b1)])) (fun _ k => X63.ldc2Long hx hown (mvT hZ (hw _ (List.mem_of_getElem? (i := 32) rfl))) (g := (mkF m 218 #[.val (.int i1), .val (.long i2), .second, .unset, .unset, .unset, .unset, .unset, .unset, .unset, .unset, .unset, .unset, .unset, .unset, .unset, .unset] [(.int (31 : Int32)), (.ref b1), (.ref b1)])) rfl (hb hby at_218) _ k) ?_
  obtain ⟨cl64, Ar64, qa64, Sa64, Na64, Ha64, Ga64⟩ := id (V63)
  have hin65 : ¬ ((31 : Int32) < 0 ∨ cl64.slots.size ≤ ((31 : Int32)).toNatClampNeg) := inb_of Sa64 ⟨by decide, by decide⟩
  obtain ⟨T65, h65, X65, e65, W65, st65⟩ := stJ X63 hx hZ e63 Ar64 (j := (31 : Int32)) hin65 (g := (mkF m 221 #[.val (.int i1), .val (.long i2), .second, .unset, .unset, .unset, .unset, .unset, .unset, .unset, .unset, .unset, .unset, .unset, .unset, .unset, .unset] [(.long (65536 : Int64)), (.int (31 : Int32)), (.ref b1), (.ref b1)])) rfl rfl (hb hby at_221)
  have V65 : Arv Z h65 b1 k1 .long (34 : Int32) [(.long (-2147483648 : Int64)), (.long (58 : Int64)), (.long (59 : Int64)), (.long (65 : Int64)), (.long (91 : Int64)), (.long (95 : Int64)), (.long (96 : Int64)), (.long (97 : Int64)), (.long (123 : Int64)), (.long (192 : Int64)), (.long (215 : Int64)), (.long (216 : Int64)), (.long (247 : Int64)), (.long (248 : Int64)), (.long (768 : Int64)), (.long (880 : Int64)), (.long (894 : Int64)), (.long (895 : Int64)), (.long (8192 : Int64)), (.long (8204 : Int64)), (.long (8206 : Int64)), (.long (8304 : Int64)), (.long (8592 : Int64)), (.long (11264 : Int64)), (.long (12272 : Int64)), (.long (12289 : Int64)), (.long (55296 : Int64)), (.long (63744 : Int64)), (.long (64976 : Int64)), (.long (65008 : Int64)), (.long (65534 : Int64)), (.long (65536 : Int64)), (.long (0 : Int64)), (.long (0 : Int64))] (.long (0 : Int64)) := Arv.set Ar64 qa64 Sa64 Na64 Ha64 Ga64 rfl W65 31 rfl (Nat.le_of_ble_eq_true rfl)
  obtain ⟨Lo65, X65, N65⟩ : ∃ K, Stand p l e room_1 s m #[(.int i1), (.long i2)] below meth c T65 K 1 34 ∧ Fr n0 K := ⟨_, X65, (Fr.snoc X65 N63 g_b1)⟩
  refine own_step (f' := (mkF m 222 #[.val (.int i1), .val (.long i2), .second, .unset, .unset, .unset, .unset, .unset, .unset, .unset, .unset, .unset, .unset, .unset, .unset, .unset, .unset] [(.ref b1)])) st65 ?_
  refine own_step (f' := (mkF m 223 #[.val (.int i1), .val (.long i2), .second, .unset, .unset, .unset, .unset, .unset, .unset, .unset, .unset, .unset, .unset, .unset, .unset, .unset, .unset] [(.ref b1), (.ref b1)])) (fun _ k => XS.dup X65.here hx rfl (hb hby at_222) rfl rfl k) ?_
  refine own_step (f' := (mkF m 225 #[.val (.int i1), .val (.long i2), .second, .unset, .unset, .unset, .unset, .unset, .unset, .unset, .unset, .unset, .unset, .unset, .unset, .unset, .unset] [(.int (32 : Int32)), (.ref b1), (.ref b1)])) (fun _ k => XS.bipush X65.here hx rfl (hb hby at_223) k) ?_
  refine own_step (f' := (mkF m 228 #[.val (.int i1), .val (.long i2), .second, .unset, .unset, .unset, .unset, .unset, .unset, .unset, .unset, .unset, .unset, .unset, .unset, .unset, .unset] [(.long (983040 : Int64)), (.int (32 : Int32)), (.ref b1), (.ref b1)])) (fun _ k => X65.ldc2Long hx hown (mvT hZ (hw _ (List.mem_of_getElem? (i := 33) rfl))) (g := (mkF m 225 #[.val (.int i1), .val (.long i2), .second, .unset, .unset, .unset, .unset, .unset, .unset, .unset, .unset, .unset, .unset, .unset, .unset, .unset, .unset] [(.int (32 : Int32)), (.ref b1), (.ref b1)])) rfl (hb hby at_225) _ k) ?_
  obtain ⟨cl66, Ar66, qa66, Sa66, Na66, Ha66, Ga66⟩ := id (V65)
  have hin67 : ¬ ((32 : Int32) < 0 ∨ cl66.slots.size ≤ ((32 : Int32)).toNatClampNeg) := inb_of Sa66 ⟨by decide, by decide⟩
  obtain ⟨T67, h67, X67, e67, W67, st67⟩ := stJ X65 hx hZ e65 Ar66 (j := (32 : Int32)) hin67 (g := (mkF m 228 #[.val (.int i1), .val (.long i2), .second, .unset, .unset, .unset, .unset, .unset, .unset, .unset, .unset, .unset, .unset, .unset, .unset, .unset, .unset] [(.long (983040 : Int64)), (.int (32 : Int32)), (.ref b1), (.ref b1)])) rfl rfl (hb hby at_228)
  have V67 : Arv Z h67 b1 k1 .long (34 : Int32) [(.long (-2147483648 : Int64)), (.long (58 : Int64)), (.long (59 : Int64)), (.long (65 : Int64)), (.long (91 : Int64)), (.long (95 : Int64)), (.long (96 : Int64)), (.long (97 : Int64)), (.long (123 : Int64)), (.long (192 : Int64)), (.long (215 : Int64)), (.long (216 : Int64)), (.long (247 : Int64)), (.long (248 : Int64)), (.long (768 : Int64)), (.long (880 : Int64)), (.long (894 : Int64)), (.long (895 : Int64)), (.long (8192 : Int64)), (.long (8204 : Int64)), (.long (8206 : Int64)), (.long (8304 : Int64)), (.long (8592 : Int64)), (.long (11264 : Int64)), (.long (12272 : Int64)), (.long (12289 : Int64)), (.long (55296 : Int64)), (.long (63744 : Int64)), (.long (64976 : Int64)), (.long (65008 : Int64)), (.long (65534 : Int64)), (.long (65536 : Int64)), (.long (983040 : Int64)), (.long (0 : Int64))] (.long (0 : Int64)) := Arv.set Ar66 qa66 Sa66 Na66 Ha66 Ga66 rfl W67 32 rfl (Nat.le_of_ble_eq_true rfl)
  obtain ⟨Lo67, X67, N67⟩ : ∃ K, Stand p l e room_1 s m #[(.int i1), (.long i2)] below meth c T67 K 1 34 ∧ Fr n0 K := ⟨_, X67, (Fr.snoc X67 N65 g_b1)⟩
  refine own_step (f' := (mkF m 229 #[.val (.int i1), .val (.long i2), .second, .unset, .unset, .unset, .unset, .unset, .unset, .unset, .unset, .unset, .unset, .unset, .unset, .unset, .unset] [(.ref b1)])) st67 ?_
  refine own_step (f' := (mkF m 230 #[.val (.int i1), .val (.long i2), .second, .unset, .unset, .unset, .unset, .unset, .unset, .unset, .unset, .unset, .unset, .unset, .unset, .unset, .unset] [(.ref b1), (.ref b1)])) (fun _ k => XS.dup X67.here hx rfl (hb hby at_229) rfl rfl k) ?_
  refine own_step (f' := (mkF m 232 #[.val (.int i1), .val (.long i2), .second, .unset, .unset, .unset, .unset, .unset, .unset, .unset, .unset, .unset, .unset, .unset, .unset, .unset, .unset] [(.int (33 : Int32)), (.ref b1), (.ref b1)])) (fun _ k => XS.bipush X67.here hx rfl (hb hby at_230) k) ?_
  refine own_step (f' := (mkF m 235 #[.val (.int i1), .val (.long i2), .second, .unset, .unset, .unset, .unset, .unset, .unset, .unset, .unset, .unset, .unset, .unset, .unset, .unset, .unset] [(.long (2147483648 : Int64)), (.int (33 : Int32)), (.ref b1), (.ref b1)])) (fun _ k => X67.ldc2Long hx hown (mvT hZ (hw _ (List.mem_of_getElem? (i := 34) rfl))) (g := (mkF m 232 #[.val (.int i1), .val (.long i2), .second, .unset, .unset, .unset, .unset, .unset, .unset, .unset, .unset, .unset, .unset, .unset, .unset, .unset, .unset] [(.int (33 : Int32)), (.ref b1), (.ref b1)])) rfl (hb hby at_232) _ k) ?_
  obtain ⟨cl68, Ar68, qa68, Sa68, Na68, Ha68, Ga68⟩ := id (V67)
  have hin69 : ¬ ((33 : Int32) < 0 ∨ cl68.slots.size ≤ ((33 : Int32)).toNatClampNeg) := inb_of Sa68 ⟨by decide, by decide⟩
  obtain ⟨T69, h69, X69, e69, W69, st69⟩ := stJ X67 hx hZ e67 Ar68 (j := (33 : Int32)) hin69 (g := (mkF m 235 #[.val (.int i1), .val (.long i2), .second, .unset, .unset, .unset, .unset, .unset, .unset, .unset, .unset, .unset, .unset, .unset, .unset, .unset, .unset] [(.long (2147483648 : Int64)), (.int (33 : Int32)), (.ref b1), (.ref b1)])) rfl rfl (hb hby at_235)
  have V69 : Arv Z h69 b1 k1 .long (34 : Int32) [(.long (-2147483648 : Int64)), (.long (58 : Int64)), (.long (59 : Int64)), (.long (65 : Int64)), (.long (91 : Int64)), (.long (95 : Int64)), (.long (96 : Int64)), (.long (97 : Int64)), (.long (123 : Int64)), (.long (192 : Int64)), (.long (215 : Int64)), (.long (216 : Int64)), (.long (247 : Int64)), (.long (248 : Int64)), (.long (768 : Int64)), (.long (880 : Int64)), (.long (894 : Int64)), (.long (895 : Int64)), (.long (8192 : Int64)), (.long (8204 : Int64)), (.long (8206 : Int64)), (.long (8304 : Int64)), (.long (8592 : Int64)), (.long (11264 : Int64)), (.long (12272 : Int64)), (.long (12289 : Int64)), (.long (55296 : Int64)), (.long (63744 : Int64)), (.long (64976 : Int64)), (.long (65008 : Int64)), (.long (65534 : Int64)), (.long (65536 : Int64)), (.long (983040 : Int64)), (.long (2147483648 : Int64))] (.long (0 : Int64)) := Arv.set Ar68 qa68 Sa68 Na68 Ha68 Ga68 rfl W69 33 rfl (Nat.le_of_ble_eq_true rfl)
  obtain ⟨Lo69, X69, N69⟩ : ∃ K, Stand p l e room_1 s m #[(.int i1), (.long i2)] below meth c T69 K 1 34 ∧ Fr n0 K := ⟨_, X69, (Fr.snoc X69 N67 g_b1)⟩
  refine own_step (f' := (mkF m 236 #[.val (.int i1), .val (.long i2), .second, .unset, .unset, .unset, .unset, .unset, .unset, .unset, .unset, .unset, .unset, .unset, .unset, .unset, .unset] [(.ref b1)])) st69 ?_
  refine own_step (f' := (mkF m 237 #[.val (.int i1), .val (.long i2), .second, .val (.ref b1), .unset, .unset, .unset, .unset, .unset, .unset, .unset, .unset, .unset, .unset, .unset, .unset, .unset] [])) (fun _ k => XS.astoreN X69.here hx rfl (hb hby at_236) rfl rfl (l' := #[.val (.int i1), .val (.long i2), .second, .val (.ref b1), .unset, .unset, .unset, .unset, .unset, .unset, .unset, .unset, .unset, .unset, .unset, .unset, .unset]) rfl k) ?_
  refine own_step (f' := (mkF m 238 #[.val (.int i1), .val (.long i2), .second, .val (.ref b1), .unset, .unset, .unset, .unset, .unset, .unset, .unset, .unset, .unset, .unset, .unset, .unset, .unset] [(.int i1)])) (fun _ k => XS.iloadN X69.here hx rfl (hb hby at_237) rfl k) ?_
  refine own_step (f' := (mkF m 240 #[.val (.int i1), .val (.long i2), .second, .val (.ref b1), .unset, .unset, .unset, .unset, .unset, .unset, .unset, .unset, .unset, .unset, .unset, .unset, .unset] [(.int (2147483647 : Int32)), (.int i1)])) (fun _ k => X69.ldcInt hx hown (mvT hZ (hw _ (List.mem_of_getElem? (i := 35) rfl))) (g := (mkF m 238 #[.val (.int i1), .val (.long i2), .second, .val (.ref b1), .unset, .unset, .unset, .unset, .unset, .unset, .unset, .unset, .unset, .unset, .unset, .unset, .unset] [(.int i1)])) rfl (hb hby at_238) _ k) ?_
  refine own_step (f' := (mkF m 241 #[.val (.int i1), .val (.long i2), .second, .val (.ref b1), .unset, .unset, .unset, .unset, .unset, .unset, .unset, .unset, .unset, .unset, .unset, .unset, .unset] [(.int (i1 &&& (2147483647 : Int32)))])) (fun _ k => XS.iand X69.here hx rfl (hb hby at_240) rfl k) ?_
  refine own_step (f' := (mkF m 243 #[.val (.int i1), .val (.long i2), .second, .val (.ref b1), .unset, .unset, .unset, .unset, .unset, .unset, .unset, .unset, .unset, .unset, .unset, .unset, .unset] [(.int (33 : Int32)), (.int (i1 &&& (2147483647 : Int32)))])) (fun _ k => XS.bipush X69.here hx rfl (hb hby at_241) k) ?_
  refine own_step (f' := (mkF m 244 #[.val (.int i1), .val (.long i2), .second, .val (.ref b1), .unset, .unset, .unset, .unset, .unset, .unset, .unset, .unset, .unset, .unset, .unset, .unset, .unset] [(.int ((i1 &&& (2147483647 : Int32)) % (33 : Int32)))])) (fun _ k => iremM X69 hx rfl (hb hby at_243) rfl (by decide) k) ?_
  refine own_step (f' := (mkF m 246 #[.val (.int i1), .val (.long i2), .second, .val (.ref b1), .val (.int ((i1 &&& (2147483647 : Int32)) % (33 : Int32))), .unset, .unset, .unset, .unset, .unset, .unset, .unset, .unset, .unset, .unset, .unset, .unset] [])) (fun _ k => XS.istore X69.here hx rfl (hb hby at_244) rfl (l' := #[.val (.int i1), .val (.long i2), .second, .val (.ref b1), .val (.int ((i1 &&& (2147483647 : Int32)) % (33 : Int32))), .unset, .unset, .unset, .unset, .unset, .unset, .unset, .unset, .unset, .unset, .unset, .unset]) rfl k) ?_
  refine own_step (f' := (mkF m 247 #[.val (.int i1), .val (.long i2), .second, .val (.ref b1), .val (.int ((i1 &&& (2147483647 : Int32)) % (33 : Int32))), .unset, .unset, .unset, .unset, .unset, .unset, .unset, .unset, .unset, .unset, .unset, .unset] [(.ref b1)])) (fun _ k => XS.aloadN X69.here hx rfl (hb hby at_246) rfl rfl k) ?_
  refine own_step (f' := (mkF m 249 #[.val (.int i1), .val (.long i2), .second, .val (.ref b1), .val (.int ((i1 &&& (2147483647 : Int32)) % (33 : Int32))), .unset, .unset, .unset, .unset, .unset, .unset, .unset, .unset, .unset, .unset, .unset, .unset] [(.int ((i1 &&& (2147483647 : Int32)) % (33 : Int32))), (.ref b1)])) (fun _ k => XS.iload X69.here hx rfl (hb hby at_247) rfl k) ?_
  obtain ⟨cl70, Ar70, qa70, Sa70, Na70, Ha70, Ga70⟩ := id (V69)
  have hin71 : ¬ (((i1 &&& (2147483647 : Int32)) % (33 : Int32)) < 0 ∨ cl70.slots.size ≤ (((i1 &&& (2147483647 : Int32)) % (33 : Int32))).toNatClampNeg) := inb_of Sa70 (own_in _ ⟨(own_idx i1).1, Int.lt_trans (own_idx i1).2 (by decide)⟩)
  refine own_step (f' := (mkF m 250 #[.val (.int i1), .val (.long i2), .second, .val (.ref b1), .val (.int ((i1 &&& (2147483647 : Int32)) % (33 : Int32))), .unset, .unset, .unset, .unset, .unset, .unset, .unset, .unset, .unset, .unset, .unset, .unset] [(.long (own_seg ((i1 &&& (2147483647 : Int32)) % (33 : Int32))))])) (fun _ k => X69.laload hx (j := ((i1 &&& (2147483647 : Int32)) % (33 : Int32))) (v := (.long (own_seg ((i1 &&& (2147483647 : Int32)) % (33 : Int32))))) (by rw [e69]; exact Ar70.1) (State.isArrayOf_alike hZ.alike Ar70.2.1) Ar70.2.2 hin71 (Ha70.at hin71 (own_get ((i1 &&& (2147483647 : Int32)) % (33 : Int32)))) (g := (mkF m 249 #[.val (.int i1), .val (.long i2), .second, .val (.ref b1), .val (.int ((i1 &&& (2147483647 : Int32)) % (33 : Int32))), .unset, .unset, .unset, .unset, .unset, .unset, .unset, .unset, .unset, .unset, .unset, .unset] [(.int ((i1 &&& (2147483647 : Int32)) % (33 : Int32))), (.ref b1)])) rfl rfl (hb hby at_249) _ k) ?_
  refine own_step (f' := (mkF m 252 #[.val (.int i1), .val (.long i2), .second, .val (.ref b1), .val (.int ((i1 &&& (2147483647 : Int32)) % (33 : Int32))), .val (.long (own_seg ((i1 &&& (2147483647 : Int32)) % (33 : Int32)))), .second, .unset, .unset, .unset, .unset, .unset, .unset, .unset, .unset, .unset, .unset] [])) (fun _ k => XS.lstore X69.here hx rfl (hb hby at_250) rfl (l' := #[.val (.int i1), .val (.long i2), .second, .val (.ref b1), .val (.int ((i1 &&& (2147483647 : Int32)) % (33 : Int32))), .val (.long (own_seg ((i1 &&& (2147483647 : Int32)) % (33 : Int32)))), .second, .unset, .unset, .unset, .unset, .unset, .unset, .unset, .unset, .unset, .unset]) rfl k) ?_
  refine own_step (f' := (mkF m 253 #[.val (.int i1), .val (.long i2), .second, .val (.ref b1), .val (.int ((i1 &&& (2147483647 : Int32)) % (33 : Int32))), .val (.long (own_seg ((i1 &&& (2147483647 : Int32)) % (33 : Int32)))), .second, .unset, .unset, .unset, .unset, .unset, .unset, .unset, .unset, .unset, .unset] [(.ref b1)])) (fun _ k => XS.aloadN X69.here hx rfl (hb hby at_252) rfl rfl k) ?_
  refine own_step (f' := (mkF m 255 #[.val (.int i1), .val (.long i2), .second, .val (.ref b1), .val (.int ((i1 &&& (2147483647 : Int32)) % (33 : Int32))), .val (.long (own_seg ((i1 &&& (2147483647 : Int32)) % (33 : Int32)))), .second, .unset, .unset, .unset, .unset, .unset, .unset, .unset, .unset, .unset, .unset] [(.int ((i1 &&& (2147483647 : Int32)) % (33 : Int32))), (.ref b1)])) (fun _ k => XS.iload X69.here hx rfl (hb hby at_253) rfl k) ?_
  refine own_step (f' := (mkF m 256 #[.val (.int i1), .val (.long i2), .second, .val (.ref b1), .val (.int ((i1 &&& (2147483647 : Int32)) % (33 : Int32))), .val (.long (own_seg ((i1 &&& (2147483647 : Int32)) % (33 : Int32)))), .second, .unset, .unset, .unset, .unset, .unset, .unset, .unset, .unset, .unset, .unset] [(.int (1 : Int32)), (.int ((i1 &&& (2147483647 : Int32)) % (33 : Int32))), (.ref b1)])) (fun _ k => XS.iconst X69.here hx rfl (hb hby at_255) k) ?_
  refine own_step (f' := (mkF m 257 #[.val (.int i1), .val (.long i2), .second, .val (.ref b1), .val (.int ((i1 &&& (2147483647 : Int32)) % (33 : Int32))), .val (.long (own_seg ((i1 &&& (2147483647 : Int32)) % (33 : Int32)))), .second, .unset, .unset, .unset, .unset, .unset, .unset, .unset, .unset, .unset, .unset] [(.int (((i1 &&& (2147483647 : Int32)) % (33 : Int32)) + (1 : Int32))), (.ref b1)])) (fun _ k => XS.iadd X69.here hx rfl (hb hby at_256) rfl k) ?_
  obtain ⟨cl72, Ar72, qa72, Sa72, Na72, Ha72, Ga72⟩ := id (V69)
  have hin73 : ¬ ((((i1 &&& (2147483647 : Int32)) % (33 : Int32)) + (1 : Int32)) < 0 ∨ cl72.slots.size ≤ ((((i1 &&& (2147483647 : Int32)) % (33 : Int32)) + (1 : Int32))).toNatClampNeg) := inb_of Sa72 (own_in _ (by rw [own_succ _ (own_idx i1)]; have := own_idx i1; omega))
  refine own_step (f' := (mkF m 258 #[.val (.int i1), .val (.long i2), .second, .val (.ref b1), .val (.int ((i1 &&& (2147483647 : Int32)) % (33 : Int32))), .val (.long (own_seg ((i1 &&& (2147483647 : Int32)) % (33 : Int32)))), .second, .unset, .unset, .unset, .unset, .unset, .unset, .unset, .unset, .unset, .unset] [(.long (own_seg (((i1 &&& (2147483647 : Int32)) % (33 : Int32)) + (1 : Int32))))])) (fun _ k => X69.laload hx (j := (((i1 &&& (2147483647 : Int32)) % (33 : Int32)) + (1 : Int32))) (v := (.long (own_seg (((i1 &&& (2147483647 : Int32)) % (33 : Int32)) + (1 : Int32))))) (by rw [e69]; exact Ar72.1) (State.isArrayOf_alike hZ.alike Ar72.2.1) Ar72.2.2 hin73 (Ha72.at hin73 (own_get (((i1 &&& (2147483647 : Int32)) % (33 : Int32)) + (1 : Int32)))) (g := (mkF m 257 #[.val (.int i1), .val (.long i2), .second, .val (.ref b1), .val (.int ((i1 &&& (2147483647 : Int32)) % (33 : Int32))), .val (.long (own_seg ((i1 &&& (2147483647 : Int32)) % (33 : Int32)))), .second, .unset, .unset, .unset, .unset, .unset, .unset, .unset, .unset, .unset, .unset] [(.int (((i1 &&& (2147483647 : Int32)) % (33 : Int32)) + (1 : Int32))), (.ref b1)])) rfl rfl (hb hby at_257) _ k) ?_
  refine own_step (f' := (mkF m 259 #[.val (.int i1), .val (.long i2), .second, .val (.ref b1), .val (.int ((i1 &&& (2147483647 : Int32)) % (33 : Int32))), .val (.long (own_seg ((i1 &&& (2147483647 : Int32)) % (33 : Int32)))), .second, .unset, .unset, .unset, .unset, .unset, .unset, .unset, .unset, .unset, .unset] [(.long (1 : Int64)), (.long (own_seg (((i1 &&& (2147483647 : Int32)) % (33 : Int32)) + (1 : Int32))))])) (fun _ k => XS.lconst X69.here hx rfl (hb hby at_258) k) ?_
  refine own_step (f' := (mkF m 260 #[.val (.int i1), .val (.long i2), .second, .val (.ref b1), .val (.int ((i1 &&& (2147483647 : Int32)) % (33 : Int32))), .val (.long (own_seg ((i1 &&& (2147483647 : Int32)) % (33 : Int32)))), .second, .unset, .unset, .unset, .unset, .unset, .unset, .unset, .unset, .unset, .unset] [(.long ((own_seg (((i1 &&& (2147483647 : Int32)) % (33 : Int32)) + (1 : Int32))) - (1 : Int64)))])) (fun _ k => XS.lsub X69.here hx rfl (hb hby at_259) rfl k) ?_
  refine own_step (f' := (mkF m 262 #[.val (.int i1), .val (.long i2), .second, .val (.ref b1), .val (.int ((i1 &&& (2147483647 : Int32)) % (33 : Int32))), .val (.long (own_seg ((i1 &&& (2147483647 : Int32)) % (33 : Int32)))), .second, .val (.long ((own_seg (((i1 &&& (2147483647 : Int32)) % (33 : Int32)) + (1 : Int32))) - (1 : Int64))), .second, .unset, .unset, .unset, .unset, .unset, .unset, .unset, .unset] [])) (fun _ k => XS.lstore X69.here hx rfl (hb hby at_260) rfl (l' := #[.val (.int i1), .val (.long i2), .second, .val (.ref b1), .val (.int ((i1 &&& (2147483647 : Int32)) % (33 : Int32))), .val (.long (own_seg ((i1 &&& (2147483647 : Int32)) % (33 : Int32)))), .second, .val (.long ((own_seg (((i1 &&& (2147483647 : Int32)) % (33 : Int32)) + (1 : Int32))) - (1 : Int64))), .second, .unset, .unset, .unset, .unset, .unset, .unset, .unset, .unset]) rfl k) ?_
  refine own_step (f' := (mkF m 263 #[.val (.int i1), .val (.long i2), .second, .val (.ref b1), .val (.int ((i1 &&& (2147483647 : Int32)) % (33 : Int32))), .val (.long (own_seg ((i1 &&& (2147483647 : Int32)) % (33 : Int32)))), .second, .val (.long ((own_seg (((i1 &&& (2147483647 : Int32)) % (33 : Int32)) + (1 : Int32))) - (1 : Int64))), .second, .unset, .unset, .unset, .unset, .unset, .unset, .unset, .unset] [(.ref b1)])) (fun _ k => XS.aloadN X69.here hx rfl (hb hby at_262) rfl rfl k) ?_
  refine own_step (f' := (mkF m 265 #[.val (.int i1), .val (.long i2), .second, .val (.ref b1), .val (.int ((i1 &&& (2147483647 : Int32)) % (33 : Int32))), .val (.long (own_seg ((i1 &&& (2147483647 : Int32)) % (33 : Int32)))), .second, .val (.long ((own_seg (((i1 &&& (2147483647 : Int32)) % (33 : Int32)) + (1 : Int32))) - (1 : Int64))), .second, .unset, .unset, .unset, .unset, .unset, .unset, .unset, .unset] [(.int ((i1 &&& (2147483647 : Int32)) % (33 : Int32))), (.ref b1)])) (fun _ k => XS.iload X69.here hx rfl (hb hby at_263) rfl k) ?_
  refine own_step (f' := (mkF m 266 #[.val (.int i1), .val (.long i2), .second, .val (.ref b1), .val (.int ((i1 &&& (2147483647 : Int32)) % (33 : Int32))), .val (.long (own_seg ((i1 &&& (2147483647 : Int32)) % (33 : Int32)))), .second, .val (.long ((own_seg (((i1 &&& (2147483647 : Int32)) % (33 : Int32)) + (1 : Int32))) - (1 : Int64))), .second, .unset, .unset, .unset, .unset, .unset, .unset, .unset, .unset] [(.int (1 : Int32)), (.int ((i1 &&& (2147483647 : Int32)) % (33 : Int32))), (.ref b1)])) (fun _ k => XS.iconst X69.here hx rfl (hb hby at_265) k) ?_
  refine own_step (f' := (mkF m 267 #[.val (.int i1), .val (.long i2), .second, .val (.ref b1), .val (.int ((i1 &&& (2147483647 : Int32)) % (33 : Int32))), .val (.long (own_seg ((i1 &&& (2147483647 : Int32)) % (33 : Int32)))), .second, .val (.long ((own_seg (((i1 &&& (2147483647 : Int32)) % (33 : Int32)) + (1 : Int32))) - (1 : Int64))), .second, .unset, .unset, .unset, .unset, .unset, .unset, .unset, .unset] [(.int (((i1 &&& (2147483647 : Int32)) % (33 : Int32)) + (1 : Int32))), (.ref b1)])) (fun _ k => XS.iadd X69.here hx rfl (hb hby at_266) rfl k) ?_
  obtain ⟨cl74, Ar74, qa74, Sa74, Na74, Ha74, Ga74⟩ := id (V69)
  have hin75 : ¬ ((((i1 &&& (2147483647 : Int32)) % (33 : Int32)) + (1 : Int32)) < 0 ∨ cl74.slots.size ≤ ((((i1 &&& (2147483647 : Int32)) % (33 : Int32)) + (1 : Int32))).toNatClampNeg) := inb_of Sa74 (own_in _ (by rw [own_succ _ (own_idx i1)]; have := own_idx i1; omega))
  refine own_step (f' := (mkF m 268 #[.val (.int i1), .val (.long i2), .second, .val (.ref b1), .val (.int ((i1 &&& (2147483647 : Int32)) % (33 : Int32))), .val (.long (own_seg ((i1 &&& (2147483647 : Int32)) % (33 : Int32)))), .second, .val (.long ((own_seg (((i1 &&& (2147483647 : Int32)) % (33 : Int32)) + (1 : Int32))) - (1 : Int64))), .second, .unset, .unset, .unset, .unset, .unset, .unset, .unset, .unset] [(.long (own_seg (((i1 &&& (2147483647 : Int32)) % (33 : Int32)) + (1 : Int32))))])) (fun _ k => X69.laload hx (j := (((i1 &&& (2147483647 : Int32)) % (33 : Int32)) + (1 : Int32))) (v := (.long (own_seg (((i1 &&& (2147483647 : Int32)) % (33 : Int32)) + (1 : Int32))))) (by rw [e69]; exact Ar74.1) (State.isArrayOf_alike hZ.alike Ar74.2.1) Ar74.2.2 hin75 (Ha74.at hin75 (own_get (((i1 &&& (2147483647 : Int32)) % (33 : Int32)) + (1 : Int32)))) (g := (mkF m 267 #[.val (.int i1), .val (.long i2), .second, .val (.ref b1), .val (.int ((i1 &&& (2147483647 : Int32)) % (33 : Int32))), .val (.long (own_seg ((i1 &&& (2147483647 : Int32)) % (33 : Int32)))), .second, .val (.long ((own_seg (((i1 &&& (2147483647 : Int32)) % (33 : Int32)) + (1 : Int32))) - (1 : Int64))), .second, .unset, .unset, .unset, .unset, .unset, .unset, .unset, .unset] [(.int (((i1 &&& (2147483647 : Int32)) % (33 : Int32)) + (1 : Int32))), (.ref b1)])) rfl rfl (hb hby at_267) _ k) ?_
  refine own_step (f' := (mkF m 270 #[.val (.int i1), .val (.long i2), .second, .val (.ref b1), .val (.int ((i1 &&& (2147483647 : Int32)) % (33 : Int32))), .val (.long (own_seg ((i1 &&& (2147483647 : Int32)) % (33 : Int32)))), .second, .val (.long ((own_seg (((i1 &&& (2147483647 : Int32)) % (33 : Int32)) + (1 : Int32))) - (1 : Int64))), .second, .unset, .unset, .unset, .unset, .unset, .unset, .unset, .unset] [(.long (own_seg ((i1 &&& (2147483647 : Int32)) % (33 : Int32)))), (.long (own_seg (((i1 &&& (2147483647 : Int32)) % (33 : Int32)) + (1 : Int32))))])) (fun _ k => XS.lload X69.here hx rfl (hb hby at_268) rfl k) ?_
  refine own_step (f' := (mkF m 271 #[.val (.int i1), .val (.long i2), .second, .val (.ref b1), .val (.int ((i1 &&& (2147483647 : Int32)) % (33 : Int32))), .val (.long (own_seg ((i1 &&& (2147483647 : Int32)) % (33 : Int32)))), .second, .val (.long ((own_seg (((i1 &&& (2147483647 : Int32)) % (33 : Int32)) + (1 : Int32))) - (1 : Int64))), .second, .unset, .unset, .unset, .unset, .unset, .unset, .unset, .unset] [(.long ((own_seg (((i1 &&& (2147483647 : Int32)) % (33 : Int32)) + (1 : Int32))) - (own_seg ((i1 &&& (2147483647 : Int32)) % (33 : Int32)))))])) (fun _ k => XS.lsub X69.here hx rfl (hb hby at_270) rfl k) ?_
  refine own_step (f' := (mkF m 273 #[.val (.int i1), .val (.long i2), .second, .val (.ref b1), .val (.int ((i1 &&& (2147483647 : Int32)) % (33 : Int32))), .val (.long (own_seg ((i1 &&& (2147483647 : Int32)) % (33 : Int32)))), .second, .val (.long ((own_seg (((i1 &&& (2147483647 : Int32)) % (33 : Int32)) + (1 : Int32))) - (1 : Int64))), .second, .val (.long ((own_seg (((i1 &&& (2147483647 : Int32)) % (33 : Int32)) + (1 : Int32))) - (own_seg ((i1 &&& (2147483647 : Int32)) % (33 : Int32))))), .second, .unset, .unset, .unset, .unset, .unset, .unset] [])) (fun _ k => XS.lstore X69.here hx rfl (hb hby at_271) rfl (l' := #[.val (.int i1), .val (.long i2), .second, .val (.ref b1), .val (.int ((i1 &&& (2147483647 : Int32)) % (33 : Int32))), .val (.long (own_seg ((i1 &&& (2147483647 : Int32)) % (33 : Int32)))), .second, .val (.long ((own_seg (((i1 &&& (2147483647 : Int32)) % (33 : Int32)) + (1 : Int32))) - (1 : Int64))), .second, .val (.long ((own_seg (((i1 &&& (2147483647 : Int32)) % (33 : Int32)) + (1 : Int32))) - (own_seg ((i1 &&& (2147483647 : Int32)) % (33 : Int32))))), .second, .unset, .unset, .unset, .unset, .unset, .unset]) rfl k) ?_
  refine own_step (f' := (mkF m 275 #[.val (.int i1), .val (.long i2), .second, .val (.ref b1), .val (.int ((i1 &&& (2147483647 : Int32)) % (33 : Int32))), .val (.long (own_seg ((i1 &&& (2147483647 : Int32)) % (33 : Int32)))), .second, .val (.long ((own_seg (((i1 &&& (2147483647 : Int32)) % (33 : Int32)) + (1 : Int32))) - (1 : Int64))), .second, .val (.long ((own_seg (((i1 &&& (2147483647 : Int32)) % (33 : Int32)) + (1 : Int32))) - (own_seg ((i1 &&& (2147483647 : Int32)) % (33 : Int32))))), .second, .unset, .unset, .unset, .unset, .unset, .unset] [(.long (own_seg ((i1 &&& (2147483647 : Int32)) % (33 : Int32))))])) (fun _ k => XS.lload X69.here hx rfl (hb hby at_273) rfl k) ?_
  refine own_step (f' := (mkF m 276 #[.val (.int i1), .val (.long i2), .second, .val (.ref b1), .val (.int ((i1 &&& (2147483647 : Int32)) % (33 : Int32))), .val (.long (own_seg ((i1 &&& (2147483647 : Int32)) % (33 : Int32)))), .second, .val (.long ((own_seg (((i1 &&& (2147483647 : Int32)) % (33 : Int32)) + (1 : Int32))) - (1 : Int64))), .second, .val (.long ((own_seg (((i1 &&& (2147483647 : Int32)) % (33 : Int32)) + (1 : Int32))) - (own_seg ((i1 &&& (2147483647 : Int32)) % (33 : Int32))))), .second, .unset, .unset, .unset, .unset, .unset, .unset] [(.long i2), (.long (own_seg ((i1 &&& (2147483647 : Int32)) % (33 : Int32))))])) (fun _ k => XS.lloadN X69.here hx rfl (hb hby at_275) rfl k) ?_
  refine own_step (f' := (mkF m 279 #[.val (.int i1), .val (.long i2), .second, .val (.ref b1), .val (.int ((i1 &&& (2147483647 : Int32)) % (33 : Int32))), .val (.long (own_seg ((i1 &&& (2147483647 : Int32)) % (33 : Int32)))), .second, .val (.long ((own_seg (((i1 &&& (2147483647 : Int32)) % (33 : Int32)) + (1 : Int32))) - (1 : Int64))), .second, .val (.long ((own_seg (((i1 &&& (2147483647 : Int32)) % (33 : Int32)) + (1 : Int32))) - (own_seg ((i1 &&& (2147483647 : Int32)) % (33 : Int32))))), .second, .unset, .unset, .unset, .unset, .unset, .unset] [(.long (9223372036854775807 : Int64)), (.long i2), (.long (own_seg ((i1 &&& (2147483647 : Int32)) % (33 : Int32))))])) (fun _ k => X69.ldc2Long hx hown (mvT hZ (hw _ (List.mem_of_getElem? (i := 36) rfl))) (g := (mkF m 276 #[.val (.int i1), .val (.long i2), .second, .val (.ref b1), .val (.int ((i1 &&& (2147483647 : Int32)) % (33 : Int32))), .val (.long (own_seg ((i1 &&& (2147483647 : Int32)) % (33 : Int32)))), .second, .val (.long ((own_seg (((i1 &&& (2147483647 : Int32)) % (33 : Int32)) + (1 : Int32))) - (1 : Int64))), .second, .val (.long ((own_seg (((i1 &&& (2147483647 : Int32)) % (33 : Int32)) + (1 : Int32))) - (own_seg ((i1 &&& (2147483647 : Int32)) % (33 : Int32))))), .second, .unset, .unset, .unset, .unset, .unset, .unset] [(.long i2), (.long (own_seg ((i1 &&& (2147483647 : Int32)) % (33 : Int32))))])) rfl (hb hby at_276) _ k) ?_
  refine own_step (f' := (mkF m 280 #[.val (.int i1), .val (.long i2), .second, .val (.ref b1), .val (.int ((i1 &&& (2147483647 : Int32)) % (33 : Int32))), .val (.long (own_seg ((i1 &&& (2147483647 : Int32)) % (33 : Int32)))), .second, .val (.long ((own_seg (((i1 &&& (2147483647 : Int32)) % (33 : Int32)) + (1 : Int32))) - (1 : Int64))), .second, .val (.long ((own_seg (((i1 &&& (2147483647 : Int32)) % (33 : Int32)) + (1 : Int32))) - (own_seg ((i1 &&& (2147483647 : Int32)) % (33 : Int32))))), .second, .unset, .unset, .unset, .unset, .unset, .unset] [(.long (i2 &&& (9223372036854775807 : Int64))), (.long (own_seg ((i1 &&& (2147483647 : Int32)) % (33 : Int32))))])) (fun _ k => XS.land X69.here hx rfl (hb hby at_279) rfl k) ?_
  refine own_step (f' := (mkF m 282 #[.val (.int i1), .val (.long i2), .second, .val (.ref b1), .val (.int ((i1 &&& (2147483647 : Int32)) % (33 : Int32))), .val (.long (own_seg ((i1 &&& (2147483647 : Int32)) % (33 : Int32)))), .second, .val (.long ((own_seg (((i1 &&& (2147483647 : Int32)) % (33 : Int32)) + (1 : Int32))) - (1 : Int64))), .second, .val (.long ((own_seg (((i1 &&& (2147483647 : Int32)) % (33 : Int32)) + (1 : Int32))) - (own_seg ((i1 &&& (2147483647 : Int32)) % (33 : Int32))))), .second, .unset, .unset, .unset, .unset, .unset, .unset] [(.long ((own_seg (((i1 &&& (2147483647 : Int32)) % (33 : Int32)) + (1 : Int32))) - (own_seg ((i1 &&& (2147483647 : Int32)) % (33 : Int32))))), (.long (i2 &&& (9223372036854775807 : Int64))), (.long (own_seg ((i1 &&& (2147483647 : Int32)) % (33 : Int32))))])) (fun _ k => XS.lload X69.here hx rfl (hb hby at_280) rfl k) ?_
  refine own_step (f' := (mkF m 283 #[.val (.int i1), .val (.long i2), .second, .val (.ref b1), .val (.int ((i1 &&& (2147483647 : Int32)) % (33 : Int32))), .val (.long (own_seg ((i1 &&& (2147483647 : Int32)) % (33 : Int32)))), .second, .val (.long ((own_seg (((i1 &&& (2147483647 : Int32)) % (33 : Int32)) + (1 : Int32))) - (1 : Int64))), .second, .val (.long ((own_seg (((i1 &&& (2147483647 : Int32)) % (33 : Int32)) + (1 : Int32))) - (own_seg ((i1 &&& (2147483647 : Int32)) % (33 : Int32))))), .second, .unset, .unset, .unset, .unset, .unset, .unset] [(.long ((i2 &&& (9223372036854775807 : Int64)) % ((own_seg (((i1 &&& (2147483647 : Int32)) % (33 : Int32)) + (1 : Int32))) - (own_seg ((i1 &&& (2147483647 : Int32)) % (33 : Int32)))))), (.long (own_seg ((i1 &&& (2147483647 : Int32)) % (33 : Int32))))])) (fun _ k => XS.lrem X69.here hx rfl (hb hby at_282) rfl (own_nz _ (own_idx i1)) (by rw [lrem_mod]; exact k)) ?_
  refine own_step (f' := (mkF m 284 #[.val (.int i1), .val (.long i2), .second, .val (.ref b1), .val (.int ((i1 &&& (2147483647 : Int32)) % (33 : Int32))), .val (.long (own_seg ((i1 &&& (2147483647 : Int32)) % (33 : Int32)))), .second, .val (.long ((own_seg (((i1 &&& (2147483647 : Int32)) % (33 : Int32)) + (1 : Int32))) - (1 : Int64))), .second, .val (.long ((own_seg (((i1 &&& (2147483647 : Int32)) % (33 : Int32)) + (1 : Int32))) - (own_seg ((i1 &&& (2147483647 : Int32)) % (33 : Int32))))), .second, .unset, .unset, .unset, .unset, .unset, .unset] [(.long ((own_seg ((i1 &&& (2147483647 : Int32)) % (33 : Int32))) + ((i2 &&& (9223372036854775807 : Int64)) % ((own_seg (((i1 &&& (2147483647 : Int32)) % (33 : Int32)) + (1 : Int32))) - (own_seg ((i1 &&& (2147483647 : Int32)) % (33 : Int32)))))))])) (fun _ k => XS.ladd X69.here hx rfl (hb hby at_283) rfl k) ?_
  refine own_step (f' := (mkF m 286 #[.val (.int i1), .val (.long i2), .second, .val (.ref b1), .val (.int ((i1 &&& (2147483647 : Int32)) % (33 : Int32))), .val (.long (own_seg ((i1 &&& (2147483647 : Int32)) % (33 : Int32)))), .second, .val (.long ((own_seg (((i1 &&& (2147483647 : Int32)) % (33 : Int32)) + (1 : Int32))) - (1 : Int64))), .second, .val (.long ((own_seg (((i1 &&& (2147483647 : Int32)) % (33 : Int32)) + (1 : Int32))) - (own_seg ((i1 &&& (2147483647 : Int32)) % (33 : Int32))))), .second, .val (.long ((own_seg ((i1 &&& (2147483647 : Int32)) % (33 : Int32))) + ((i2 &&& (9223372036854775807 : Int64)) % ((own_seg (((i1 &&& (2147483647 : Int32)) % (33 : Int32)) + (1 : Int32))) - (own_seg ((i1 &&& (2147483647 : Int32)) % (33 : Int32))))))), .second, .unset, .unset, .unset, .unset] [])) (fun _ k => XS.lstore X69.here hx rfl (hb hby at_284) rfl (l' := #[.val (.int i1), .val (.long i2), .second, .val (.ref b1), .val (.int ((i1 &&& (2147483647 : Int32)) % (33 : Int32))), .val (.long (own_seg ((i1 &&& (2147483647 : Int32)) % (33 : Int32)))), .second, .val (.long ((own_seg (((i1 &&& (2147483647 : Int32)) % (33 : Int32)) + (1 : Int32))) - (1 : Int64))), .second, .val (.long ((own_seg (((i1 &&& (2147483647 : Int32)) % (33 : Int32)) + (1 : Int32))) - (own_seg ((i1 &&& (2147483647 : Int32)) % (33 : Int32))))), .second, .val (.long ((own_seg ((i1 &&& (2147483647 : Int32)) % (33 : Int32))) + ((i2 &&& (9223372036854775807 : Int64)) % ((own_seg (((i1 &&& (2147483647 : Int32)) % (33 : Int32)) + (1 : Int32))) - (own_seg ((i1 &&& (2147483647 : Int32)) % (33 : Int32))))))), .second, .unset, .unset, .unset, .unset]) rfl k) ?_
  refine own_step (f' := (mkF m 288 #[.val (.int i1), .val (.long i2), .second, .val (.ref b1), .val (.int ((i1 &&& (2147483647 : Int32)) % (33 : Int32))), .val (.long (own_seg ((i1 &&& (2147483647 : Int32)) % (33 : Int32)))), .second, .val (.long ((own_seg (((i1 &&& (2147483647 : Int32)) % (33 : Int32)) + (1 : Int32))) - (1 : Int64))), .second, .val (.long ((own_seg (((i1 &&& (2147483647 : Int32)) % (33 : Int32)) + (1 : Int32))) - (own_seg ((i1 &&& (2147483647 : Int32)) % (33 : Int32))))), .second, .val (.long ((own_seg ((i1 &&& (2147483647 : Int32)) % (33 : Int32))) + ((i2 &&& (9223372036854775807 : Int64)) % ((own_seg (((i1 &&& (2147483647 : Int32)) % (33 : Int32)) + (1 : Int32))) - (own_seg ((i1 &&& (2147483647 : Int32)) % (33 : Int32))))))), .second, .unset, .unset, .unset, .unset] [(.int ((i1 &&& (2147483647 : Int32)) % (33 : Int32)))])) (fun _ k => XS.iload X69.here hx rfl (hb hby at_286) rfl k) ?_
  refine own_step (f' := (mkF m 289 #[.val (.int i1), .val (.long i2), .second, .val (.ref b1), .val (.int ((i1 &&& (2147483647 : Int32)) % (33 : Int32))), .val (.long (own_seg ((i1 &&& (2147483647 : Int32)) % (33 : Int32)))), .second, .val (.long ((own_seg (((i1 &&& (2147483647 : Int32)) % (33 : Int32)) + (1 : Int32))) - (1 : Int64))), .second, .val (.long ((own_seg (((i1 &&& (2147483647 : Int32)) % (33 : Int32)) + (1 : Int32))) - (own_seg ((i1 &&& (2147483647 : Int32)) % (33 : Int32))))), .second, .val (.long ((own_seg ((i1 &&& (2147483647 : Int32)) % (33 : Int32))) + ((i2 &&& (9223372036854775807 : Int64)) % ((own_seg (((i1 &&& (2147483647 : Int32)) % (33 : Int32)) + (1 : Int32))) - (own_seg ((i1 &&& (2147483647 : Int32)) % (33 : Int32))))))), .second, .unset, .unset, .unset, .unset] [(.int (1 : Int32)), (.int ((i1 &&& (2147483647 : Int32)) % (33 : Int32)))])) (fun _ k => XS.iconst X69.here hx rfl (hb hby at_288) k) ?_
  refine own_step (f' := (mkF m 290 #[.val (.int i1), .val (.long i2), .second, .val (.ref b1), .val (.int ((i1 &&& (2147483647 : Int32)) % (33 : Int32))), .val (.long (own_seg ((i1 &&& (2147483647 : Int32)) % (33 : Int32)))), .second, .val (.long ((own_seg (((i1 &&& (2147483647 : Int32)) % (33 : Int32)) + (1 : Int32))) - (1 : Int64))), .second, .val (.long ((own_seg (((i1 &&& (2147483647 : Int32)) % (33 : Int32)) + (1 : Int32))) - (own_seg ((i1 &&& (2147483647 : Int32)) % (33 : Int32))))), .second, .val (.long ((own_seg ((i1 &&& (2147483647 : Int32)) % (33 : Int32))) + ((i2 &&& (9223372036854775807 : Int64)) % ((own_seg (((i1 &&& (2147483647 : Int32)) % (33 : Int32)) + (1 : Int32))) - (own_seg ((i1 &&& (2147483647 : Int32)) % (33 : Int32))))))), .second, .unset, .unset, .unset, .unset] [(.int (((i1 &&& (2147483647 : Int32)) % (33 : Int32)) &&& (1 : Int32)))])) (fun _ k => XS.iand X69.here hx rfl (hb hby at_289) rfl k) ?_
  refine own_step (f' := (mkF m 291 #[.val (.int i1), .val (.long i2), .second, .val (.ref b1), .val (.int ((i1 &&& (2147483647 : Int32)) % (33 : Int32))), .val (.long (own_seg ((i1 &&& (2147483647 : Int32)) % (33 : Int32)))), .second, .val (.long ((own_seg (((i1 &&& (2147483647 : Int32)) % (33 : Int32)) + (1 : Int32))) - (1 : Int64))), .second, .val (.long ((own_seg (((i1 &&& (2147483647 : Int32)) % (33 : Int32)) + (1 : Int32))) - (own_seg ((i1 &&& (2147483647 : Int32)) % (33 : Int32))))), .second, .val (.long ((own_seg ((i1 &&& (2147483647 : Int32)) % (33 : Int32))) + ((i2 &&& (9223372036854775807 : Int64)) % ((own_seg (((i1 &&& (2147483647 : Int32)) % (33 : Int32)) + (1 : Int32))) - (own_seg ((i1 &&& (2147483647 : Int32)) % (33 : Int32))))))), .second, .unset, .unset, .unset, .unset] [(.int (1 : Int32)), (.int (((i1 &&& (2147483647 : Int32)) % (33 : Int32)) &&& (1 : Int32)))])) (fun _ k => XS.iconst X69.here hx rfl (hb hby at_290) k) ?_
  have J291_77 : ∀ (T291_77 : State) (v291_77_s0 : Int32), Stand p l e room_1 s m #[(.int i1), (.long i2)] below meth c T291_77 Lo69 1 34 → T291_77.heap = h69 → v291_77_s0 = (if (((i1 &&& (2147483647 : Int32)) % (33 : Int32)) &&& (1 : Int32)) = (1 : Int32) then (1 : Int32) else (0 : Int32)) → own_Goes p e below s (Q0 Z i1 i2 h0 n0) room_1.cells room_1.slots T291_77 (mkF m 299 #[.val (.int i1), .val (.long i2), .second, .val (.ref b1), .val (.int ((i1 &&& (2147483647 : Int32)) % (33 : Int32))), .val (.long (own_seg ((i1 &&& (2147483647 : Int32)) % (33 : Int32)))), .second, .val (.long ((own_seg (((i1 &&& (2147483647 : Int32)) % (33 : Int32)) + (1 : Int32))) - (1 : Int64))), .second, .val (.long ((own_seg (((i1 &&& (2147483647 : Int32)) % (33 : Int32)) + (1 : Int32))) - (own_seg ((i1 &&& (2147483647 : Int32)) % (33 : Int32))))), .second, .val (.long ((own_seg ((i1 &&& (2147483647 : Int32)) % (33 : Int32))) + ((i2 &&& (9223372036854775807 : Int64)) % ((own_seg (((i1 &&& (2147483647 : Int32)) % (33 : Int32)) + (1 : Int32))) - (own_seg ((i1 &&& (2147483647 : Int32)) % (33 : Int32))))))), .second, .unset, .unset, .unset, .unset] [(.int v291_77_s0)]) := by
    intro T291_77 v291_77_s0 X291_77 e291_77 hv291_77_0
    have hfin := own_fin _ _ i2 (own_idx i1) hv291_77_0
    refine own_step (f' := (mkF m 301 #[.val (.int i1), .val (.long i2), .second, .val (.ref b1), .val (.int ((i1 &&& (2147483647 : Int32)) % (33 : Int32))), .val (.long (own_seg ((i1 &&& (2147483647 : Int32)) % (33 : Int32)))), .second, .val (.long ((own_seg (((i1 &&& (2147483647 : Int32)) % (33 : Int32)) + (1 : Int32))) - (1 : Int64))), .second, .val (.long ((own_seg (((i1 &&& (2147483647 : Int32)) % (33 : Int32)) + (1 : Int32))) - (own_seg ((i1 &&& (2147483647 : Int32)) % (33 : Int32))))), .second, .val (.long ((own_seg ((i1 &&& (2147483647 : Int32)) % (33 : Int32))) + ((i2 &&& (9223372036854775807 : Int64)) % ((own_seg (((i1 &&& (2147483647 : Int32)) % (33 : Int32)) + (1 : Int32))) - (own_seg ((i1 &&& (2147483647 : Int32)) % (33 : Int32))))))), .second, .val (.int v291_77_s0), .unset, .unset, .unset] [])) (fun _ k => XS.istore X291_77.here hx rfl (hb hby at_299) rfl (l' := #[.val (.int i1), .val (.long i2), .second, .val (.ref b1), .val (.int ((i1 &&& (2147483647 : Int32)) % (33 : Int32))), .val (.long (own_seg ((i1 &&& (2147483647 : Int32)) % (33 : Int32)))), .second, .val (.long ((own_seg (((i1 &&& (2147483647 : Int32)) % (33 : Int32)) + (1 : Int32))) - (1 : Int64))), .second, .val (.long ((own_seg (((i1 &&& (2147483647 : Int32)) % (33 : Int32)) + (1 : Int32))) - (own_seg ((i1 &&& (2147483647 : Int32)) % (33 : Int32))))), .second, .val (.long ((own_seg ((i1 &&& (2147483647 : Int32)) % (33 : Int32))) + ((i2 &&& (9223372036854775807 : Int64)) % ((own_seg (((i1 &&& (2147483647 : Int32)) % (33 : Int32)) + (1 : Int32))) - (own_seg ((i1 &&& (2147483647 : Int32)) % (33 : Int32))))))), .second, .val (.int v291_77_s0), .unset, .unset, .unset]) rfl k) ?_
    refine own_step (f' := (mkF m 303 #[.val (.int i1), .val (.long i2), .second, .val (.ref b1), .val (.int ((i1 &&& (2147483647 : Int32)) % (33 : Int32))), .val (.long (own_seg ((i1 &&& (2147483647 : Int32)) % (33 : Int32)))), .second, .val (.long ((own_seg (((i1 &&& (2147483647 : Int32)) % (33 : Int32)) + (1 : Int32))) - (1 : Int64))), .second, .val (.long ((own_seg (((i1 &&& (2147483647 : Int32)) % (33 : Int32)) + (1 : Int32))) - (own_seg ((i1 &&& (2147483647 : Int32)) % (33 : Int32))))), .second, .val (.long ((own_seg ((i1 &&& (2147483647 : Int32)) % (33 : Int32))) + ((i2 &&& (9223372036854775807 : Int64)) % ((own_seg (((i1 &&& (2147483647 : Int32)) % (33 : Int32)) + (1 : Int32))) - (own_seg ((i1 &&& (2147483647 : Int32)) % (33 : Int32))))))), .second, .val (.int v291_77_s0), .unset, .unset, .unset] [(.long (own_seg ((i1 &&& (2147483647 : Int32)) % (33 : Int32))))])) (fun _ k => XS.lload X291_77.here hx rfl (hb hby at_301) rfl k) ?_
    refine own_step (f' := (mkF m 304 #[.val (.int i1), .val (.long i2), .second, .val (.ref b1), .val (.int ((i1 &&& (2147483647 : Int32)) % (33 : Int32))), .val (.long (own_seg ((i1 &&& (2147483647 : Int32)) % (33 : Int32)))), .second, .val (.long ((own_seg (((i1 &&& (2147483647 : Int32)) % (33 : Int32)) + (1 : Int32))) - (1 : Int64))), .second, .val (.long ((own_seg (((i1 &&& (2147483647 : Int32)) % (33 : Int32)) + (1 : Int32))) - (own_seg ((i1 &&& (2147483647 : Int32)) % (33 : Int32))))), .second, .val (.long ((own_seg ((i1 &&& (2147483647 : Int32)) % (33 : Int32))) + ((i2 &&& (9223372036854775807 : Int64)) % ((own_seg (((i1 &&& (2147483647 : Int32)) % (33 : Int32)) + (1 : Int32))) - (own_seg ((i1 &&& (2147483647 : Int32)) % (33 : Int32))))))), .second, .val (.int v291_77_s0), .unset, .unset, .unset] [(.int ((own_seg ((i1 &&& (2147483647 : Int32)) % (33 : Int32))).toInt32))])) (fun _ k => XS.l2i X291_77.here hx rfl (hb hby at_303) rfl k) ?_
    have Zq78 : n0 ≤ h69.size := (Nat.le_trans (Nat.le_trans (Nat.le_trans (Nat.le_trans (Nat.le_trans (Nat.le_trans (Nat.le_trans (Nat.le_trans (Nat.le_trans (Nat.le_trans (Nat.le_trans (Nat.le_trans (Nat.le_trans (Nat.le_trans (Nat.le_trans (Nat.le_trans (Nat.le_trans (Nat.le_trans (Nat.le_trans (Nat.le_trans (Nat.le_trans (Nat.le_trans (Nat.le_trans (Nat.le_trans (Nat.le_trans (Nat.le_trans (Nat.le_trans (Nat.le_trans (Nat.le_trans (Nat.le_trans (Nat.le_trans (Nat.le_trans (Nat.le_trans (Nat.le_trans (Nat.le_trans Z0 E1.1) (Nat.le_of_eq W3.size.symm)) (Nat.le_of_eq W5.size.symm)) (Nat.le_of_eq W7.size.symm)) (Nat.le_of_eq W9.size.symm)) (Nat.le_of_eq W11.size.symm)) (Nat.le_of_eq W13.size.symm)) (Nat.le_of_eq W15.size.symm)) (Nat.le_of_eq W17.size.symm)) (Nat.le_of_eq W19.size.symm)) (Nat.le_of_eq W21.size.symm)) (Nat.le_of_eq W23.size.symm)) (Nat.le_of_eq W25.size.symm)) (Nat.le_of_eq W27.size.symm)) (Nat.le_of_eq W29.size.symm)) (Nat.le_of_eq W31.size.symm)) (Nat.le_of_eq W33.size.symm)) (Nat.le_of_eq W35.size.symm)) (Nat.le_of_eq W37.size.symm)) (Nat.le_of_eq W39.size.symm)) (Nat.le_of_eq W41.size.symm)) (Nat.le_of_eq W43.size.symm)) (Nat.le_of_eq W45.size.symm)) (Nat.le_of_eq W47.size.symm)) (Nat.le_of_eq W49.size.symm)) (Nat.le_of_eq W51.size.symm)) (Nat.le_of_eq W53.size.symm)) (Nat.le_of_eq W55.size.symm)) (Nat.le_of_eq W57.size.symm)) (Nat.le_of_eq W59.size.symm)) (Nat.le_of_eq W61.size.symm)) (Nat.le_of_eq W63.size.symm)) (Nat.le_of_eq W65.size.symm)) (Nat.le_of_eq W67.size.symm)) (Nat.le_of_eq W69.size.symm))
    obtain ⟨_, _, ⟨T78, L78, k78, n78⟩, -, X78, ⟨Lc78, hQ78, l78, y78, z78⟩, st78⟩ := Jvm.LawKit.callS X291_77 hx (y := (⟨"com/example/valbonne/valbonne/schema/XmlChars", "isNameStartChar", "(I)Z"⟩ : MethodName)) hown (mvT hZ (hw _ (List.mem_of_getElem? (i := 37) rfl))) (mvT hZ (hw _ (List.mem_of_getElem? (i := 38) rfl))) (mvT hZ (hw _ (List.mem_of_getElem? (i := 39) rfl))) (mvT hZ (hw _ (List.mem_of_getElem? (i := 40) rfl))) (by decide) (backOf (W := 0) (rm1 l Z a0 hw [] ((own_seg ((i1 &&& (2147483647 : Int32)) % (33 : Int32))).toInt32) h69 n0 Zq78 ) hZ (hw _ (List.mem_of_getElem? (i := 40) rfl)) (hw _ (List.mem_of_getElem? (i := 39) rfl)) (by decide) (by decide)) (g := (mkF m 304 #[.val (.int i1), .val (.long i2), .second, .val (.ref b1), .val (.int ((i1 &&& (2147483647 : Int32)) % (33 : Int32))), .val (.long (own_seg ((i1 &&& (2147483647 : Int32)) % (33 : Int32)))), .second, .val (.long ((own_seg (((i1 &&& (2147483647 : Int32)) % (33 : Int32)) + (1 : Int32))) - (1 : Int64))), .second, .val (.long ((own_seg (((i1 &&& (2147483647 : Int32)) % (33 : Int32)) + (1 : Int32))) - (own_seg ((i1 &&& (2147483647 : Int32)) % (33 : Int32))))), .second, .val (.long ((own_seg ((i1 &&& (2147483647 : Int32)) % (33 : Int32))) + ((i2 &&& (9223372036854775807 : Int64)) % ((own_seg (((i1 &&& (2147483647 : Int32)) % (33 : Int32)) + (1 : Int32))) - (own_seg ((i1 &&& (2147483647 : Int32)) % (33 : Int32))))))), .second, .val (.int v291_77_s0), .unset, .unset, .unset] [(.int ((own_seg ((i1 &&& (2147483647 : Int32)) % (33 : Int32))).toInt32))])) rfl (by rw [hml]; rfl) (argsL := [(.int ((own_seg ((i1 &&& (2147483647 : Int32)) % (33 : Int32))).toInt32))]) (rest := []) (lenOf pd_0 rfl) rfl (by show 2 * 0 + _ ≤ _; exact Nat.le_of_eq rfl) (hb hby at_304) (fun _ _ => ⟨rfl, e291_77, (by decide : 1 + 0 ≤ _), (by decide : 34 + 0 ≤ _)⟩)
    dsimp only [Pt.U, Pt.locs, Pt.cells, Pt.slots] at X78 l78 y78 z78 st78 hQ78
    subst l78 y78 z78
    obtain ⟨rfl, rfl, e78⟩ := hQ78
    try rw [List.append_nil] at X78
    refine own_step (f' := (mkF m 307 #[.val (.int i1), .val (.long i2), .second, .val (.ref b1), .val (.int ((i1 &&& (2147483647 : Int32)) % (33 : Int32))), .val (.long (own_seg ((i1 &&& (2147483647 : Int32)) % (33 : Int32)))), .second, .val (.long ((own_seg (((i1 &&& (2147483647 : Int32)) % (33 : Int32)) + (1 : Int32))) - (1 : Int64))), .second, .val (.long ((own_seg (((i1 &&& (2147483647 : Int32)) % (33 : Int32)) + (1 : Int32))) - (own_seg ((i1 &&& (2147483647 : Int32)) % (33 : Int32))))), .second, .val (.long ((own_seg ((i1 &&& (2147483647 : Int32)) % (33 : Int32))) + ((i2 &&& (9223372036854775807 : Int64)) % ((own_seg (((i1 &&& (2147483647 : Int32)) % (33 : Int32)) + (1 : Int32))) - (own_seg ((i1 &&& (2147483647 : Int32)) % (33 : Int32))))))), .second, .val (.int v291_77_s0), .unset, .unset, .unset] [(.int (own_ns_0 ((own_seg ((i1 &&& (2147483647 : Int32)) % (33 : Int32))).toInt32)))])) st78 ?_
    refine own_step (f' := (mkF m 309 #[.val (.int i1), .val (.long i2), .second, .val (.ref b1), .val (.int ((i1 &&& (2147483647 : Int32)) % (33 : Int32))), .val (.long (own_seg ((i1 &&& (2147483647 : Int32)) % (33 : Int32)))), .second, .val (.long ((own_seg (((i1 &&& (2147483647 : Int32)) % (33 : Int32)) + (1 : Int32))) - (1 : Int64))), .second, .val (.long ((own_seg (((i1 &&& (2147483647 : Int32)) % (33 : Int32)) + (1 : Int32))) - (own_seg ((i1 &&& (2147483647 : Int32)) % (33 : Int32))))), .second, .val (.long ((own_seg ((i1 &&& (2147483647 : Int32)) % (33 : Int32))) + ((i2 &&& (9223372036854775807 : Int64)) % ((own_seg (((i1 &&& (2147483647 : Int32)) % (33 : Int32)) + (1 : Int32))) - (own_seg ((i1 &&& (2147483647 : Int32)) % (33 : Int32))))))), .second, .val (.int v291_77_s0), .val (.int (own_ns_0 ((own_seg ((i1 &&& (2147483647 : Int32)) % (33 : Int32))).toInt32))), .unset, .unset] [])) (fun _ k => XS.istore X78.here hx rfl (hb hby at_307) rfl (l' := #[.val (.int i1), .val (.long i2), .second, .val (.ref b1), .val (.int ((i1 &&& (2147483647 : Int32)) % (33 : Int32))), .val (.long (own_seg ((i1 &&& (2147483647 : Int32)) % (33 : Int32)))), .second, .val (.long ((own_seg (((i1 &&& (2147483647 : Int32)) % (33 : Int32)) + (1 : Int32))) - (1 : Int64))), .second, .val (.long ((own_seg (((i1 &&& (2147483647 : Int32)) % (33 : Int32)) + (1 : Int32))) - (own_seg ((i1 &&& (2147483647 : Int32)) % (33 : Int32))))), .second, .val (.long ((own_seg ((i1 &&& (2147483647 : Int32)) % (33 : Int32))) + ((i2 &&& (9223372036854775807 : Int64)) % ((own_seg (((i1 &&& (2147483647 : Int32)) % (33 : Int32)) + (1 : Int32))) - (own_seg ((i1 &&& (2147483647 : Int32)) % (33 : Int32))))))), .second, .val (.int v291_77_s0), .val (.int (own_ns_0 ((own_seg ((i1 &&& (2147483647 : Int32)) % (33 : Int32))).toInt32))), .unset, .unset]) rfl k) ?_
    refine own_step (f' := (mkF m 311 #[.val (.int i1), .val (.long i2), .second, .val (.ref b1), .val (.int ((i1 &&& (2147483647 : Int32)) % (33 : Int32))), .val (.long (own_seg ((i1 &&& (2147483647 : Int32)) % (33 : Int32)))), .second, .val (.long ((own_seg (((i1 &&& (2147483647 : Int32)) % (33 : Int32)) + (1 : Int32))) - (1 : Int64))), .second, .val (.long ((own_seg (((i1 &&& (2147483647 : Int32)) % (33 : Int32)) + (1 : Int32))) - (own_seg ((i1 &&& (2147483647 : Int32)) % (33 : Int32))))), .second, .val (.long ((own_seg ((i1 &&& (2147483647 : Int32)) % (33 : Int32))) + ((i2 &&& (9223372036854775807 : Int64)) % ((own_seg (((i1 &&& (2147483647 : Int32)) % (33 : Int32)) + (1 : Int32))) - (own_seg ((i1 &&& (2147483647 : Int32)) % (33 : Int32))))))), .second, .val (.int v291_77_s0), .val (.int (own_ns_0 ((own_seg ((i1 &&& (2147483647 : Int32)) % (33 : Int32))).toInt32))), .unset, .unset] [(.long ((own_seg (((i1 &&& (2147483647 : Int32)) % (33 : Int32)) + (1 : Int32))) - (1 : Int64)))])) (fun _ k => XS.lload X78.here hx rfl (hb hby at_309) rfl k) ?_
    refine own_step (f' := (mkF m 312 #[.val (.int i1), .val (.long i2), .second, .val (.ref b1), .val (.int ((i1 &&& (2147483647 : Int32)) % (33 : Int32))), .val (.long (own_seg ((i1 &&& (2147483647 : Int32)) % (33 : Int32)))), .second, .val (.long ((own_seg (((i1 &&& (2147483647 : Int32)) % (33 : Int32)) + (1 : Int32))) - (1 : Int64))), .second, .val (.long ((own_seg (((i1 &&& (2147483647 : Int32)) % (33 : Int32)) + (1 : Int32))) - (own_seg ((i1 &&& (2147483647 : Int32)) % (33 : Int32))))), .second, .val (.long ((own_seg ((i1 &&& (2147483647 : Int32)) % (33 : Int32))) + ((i2 &&& (9223372036854775807 : Int64)) % ((own_seg (((i1 &&& (2147483647 : Int32)) % (33 : Int32)) + (1 : Int32))) - (own_seg ((i1 &&& (2147483647 : Int32)) % (33 : Int32))))))), .second, .val (.int v291_77_s0), .val (.int (own_ns_0 ((own_seg ((i1 &&& (2147483647 : Int32)) % (33 : Int32))).toInt32))), .unset, .unset] [(.int (((own_seg (((i1 &&& (2147483647 : Int32)) % (33 : Int32)) + (1 : Int32))) - (1 : Int64)).toInt32))])) (fun _ k => XS.l2i X78.here hx rfl (hb hby at_311) rfl k) ?_
    have Zq79 : n0 ≤ h69.size := (Nat.le_trans (Nat.le_trans (Nat.le_trans (Nat.le_trans (Nat.le_trans (Nat.le_trans (Nat.le_trans (Nat.le_trans (Nat.le_trans (Nat.le_trans (Nat.le_trans (Nat.le_trans (Nat.le_trans (Nat.le_trans (Nat.le_trans (Nat.le_trans (Nat.le_trans (Nat.le_trans (Nat.le_trans (Nat.le_trans (Nat.le_trans (Nat.le_trans (Nat.le_trans (Nat.le_trans (Nat.le_trans (Nat.le_trans (Nat.le_trans (Nat.le_trans (Nat.le_trans (Nat.le_trans (Nat.le_trans (Nat.le_trans (Nat.le_trans (Nat.le_trans (Nat.le_trans Z0 E1.1) (Nat.le_of_eq W3.size.symm)) (Nat.le_of_eq W5.size.symm)) (Nat.le_of_eq W7.size.symm)) (Nat.le_of_eq W9.size.symm)) (Nat.le_of_eq W11.size.symm)) (Nat.le_of_eq W13.size.symm)) (Nat.le_of_eq W15.size.symm)) (Nat.le_of_eq W17.size.symm)) (Nat.le_of_eq W19.size.symm)) (Nat.le_of_eq W21.size.symm)) (Nat.le_of_eq W23.size.symm)) (Nat.le_of_eq W25.size.symm)) (Nat.le_of_eq W27.size.symm)) (Nat.le_of_eq W29.size.symm)) (Nat.le_of_eq W31.size.symm)) (Nat.le_of_eq W33.size.symm)) (Nat.le_of_eq W35.size.symm)) (Nat.le_of_eq W37.size.symm)) (Nat.le_of_eq W39.size.symm)) (Nat.le_of_eq W41.size.symm)) (Nat.le_of_eq W43.size.symm)) (Nat.le_of_eq W45.size.symm)) (Nat.le_of_eq W47.size.symm)) (Nat.le_of_eq W49.size.symm)) (Nat.le_of_eq W51.size.symm)) (Nat.le_of_eq W53.size.symm)) (Nat.le_of_eq W55.size.symm)) (Nat.le_of_eq W57.size.symm)) (Nat.le_of_eq W59.size.symm)) (Nat.le_of_eq W61.size.symm)) (Nat.le_of_eq W63.size.symm)) (Nat.le_of_eq W65.size.symm)) (Nat.le_of_eq W67.size.symm)) (Nat.le_of_eq W69.size.symm))
    obtain ⟨_, _, ⟨T79, L79, k79, n79⟩, -, X79, ⟨Lc79, hQ79, l79, y79, z79⟩, st79⟩ := Jvm.LawKit.callS X78 hx (y := (⟨"com/example/valbonne/valbonne/schema/XmlChars", "isNameStartChar", "(I)Z"⟩ : MethodName)) hown (mvT hZ (hw _ (List.mem_of_getElem? (i := 37) rfl))) (mvT hZ (hw _ (List.mem_of_getElem? (i := 38) rfl))) (mvT hZ (hw _ (List.mem_of_getElem? (i := 39) rfl))) (mvT hZ (hw _ (List.mem_of_getElem? (i := 40) rfl))) (by decide) (backOf (W := 0) (rm1 l Z a0 hw [] (((own_seg (((i1 &&& (2147483647 : Int32)) % (33 : Int32)) + (1 : Int32))) - (1 : Int64)).toInt32) h69 n0 Zq79 ) hZ (hw _ (List.mem_of_getElem? (i := 40) rfl)) (hw _ (List.mem_of_getElem? (i := 39) rfl)) (by decide) (by decide)) (g := (mkF m 312 #[.val (.int i1), .val (.long i2), .second, .val (.ref b1), .val (.int ((i1 &&& (2147483647 : Int32)) % (33 : Int32))), .val (.long (own_seg ((i1 &&& (2147483647 : Int32)) % (33 : Int32)))), .second, .val (.long ((own_seg (((i1 &&& (2147483647 : Int32)) % (33 : Int32)) + (1 : Int32))) - (1 : Int64))), .second, .val (.long ((own_seg (((i1 &&& (2147483647 : Int32)) % (33 : Int32)) + (1 : Int32))) - (own_seg ((i1 &&& (2147483647 : Int32)) % (33 : Int32))))), .second, .val (.long ((own_seg ((i1 &&& (2147483647 : Int32)) % (33 : Int32))) + ((i2 &&& (9223372036854775807 : Int64)) % ((own_seg (((i1 &&& (2147483647 : Int32)) % (33 : Int32)) + (1 : Int32))) - (own_seg ((i1 &&& (2147483647 : Int32)) % (33 : Int32))))))), .second, .val (.int v291_77_s0), .val (.int (own_ns_0 ((own_seg ((i1 &&& (2147483647 : Int32)) % (33 : Int32))).toInt32))), .unset, .unset] [(.int (((own_seg (((i1 &&& (2147483647 : Int32)) % (33 : Int32)) + (1 : Int32))) - (1 : Int64)).toInt32))])) rfl (by rw [hml]; rfl) (argsL := [(.int (((own_seg (((i1 &&& (2147483647 : Int32)) % (33 : Int32)) + (1 : Int32))) - (1 : Int64)).toInt32))]) (rest := []) (lenOf pd_0 rfl) rfl (by show 2 * 0 + _ ≤ _; exact Nat.le_of_eq rfl) (hb hby at_312) (fun _ _ => ⟨rfl, e78, (by decide : 1 + 0 ≤ _), (by decide : 34 + 0 ≤ _)⟩)
    dsimp only [Pt.U, Pt.locs, Pt.cells, Pt.slots] at X79 l79 y79 z79 st79 hQ79
    subst l79 y79 z79
    obtain ⟨rfl, rfl, e79⟩ := hQ79
    try rw [List.append_nil] at X79
    refine own_step (f' := (mkF m 315 #[.val (.int i1), .val (.long i2), .second, .val (.ref b1), .val (.int ((i1 &&& (2147483647 : Int32)) % (33 : Int32))), .val (.long (own_seg ((i1 &&& (2147483647 : Int32)) % (33 : Int32)))), .second, .val (.long ((own_seg (((i1 &&& (2147483647 : Int32)) % (33 : Int32)) + (1 : Int32))) - (1 : Int64))), .second, .val (.long ((own_seg (((i1 &&& (2147483647 : Int32)) % (33 : Int32)) + (1 : Int32))) - (own_seg ((i1 &&& (2147483647 : Int32)) % (33 : Int32))))), .second, .val (.long ((own_seg ((i1 &&& (2147483647 : Int32)) % (33 : Int32))) + ((i2 &&& (9223372036854775807 : Int64)) % ((own_seg (((i1 &&& (2147483647 : Int32)) % (33 : Int32)) + (1 : Int32))) - (own_seg ((i1 &&& (2147483647 : Int32)) % (33 : Int32))))))), .second, .val (.int v291_77_s0), .val (.int (own_ns_0 ((own_seg ((i1 &&& (2147483647 : Int32)) % (33 : Int32))).toInt32))), .unset, .unset] [(.int (own_ns_0 (((own_seg (((i1 &&& (2147483647 : Int32)) % (33 : Int32)) + (1 : Int32))) - (1 : Int64)).toInt32)))])) st79 ?_
    refine own_step (f' := (mkF m 317 #[.val (.int i1), .val (.long i2), .second, .val (.ref b1), .val (.int ((i1 &&& (2147483647 : Int32)) % (33 : Int32))), .val (.long (own_seg ((i1 &&& (2147483647 : Int32)) % (33 : Int32)))), .second, .val (.long ((own_seg (((i1 &&& (2147483647 : Int32)) % (33 : Int32)) + (1 : Int32))) - (1 : Int64))), .second, .val (.long ((own_seg (((i1 &&& (2147483647 : Int32)) % (33 : Int32)) + (1 : Int32))) - (own_seg ((i1 &&& (2147483647 : Int32)) % (33 : Int32))))), .second, .val (.long ((own_seg ((i1 &&& (2147483647 : Int32)) % (33 : Int32))) + ((i2 &&& (9223372036854775807 : Int64)) % ((own_seg (((i1 &&& (2147483647 : Int32)) % (33 : Int32)) + (1 : Int32))) - (own_seg ((i1 &&& (2147483647 : Int32)) % (33 : Int32))))))), .second, .val (.int v291_77_s0), .val (.int (own_ns_0 ((own_seg ((i1 &&& (2147483647 : Int32)) % (33 : Int32))).toInt32))), .val (.int (own_ns_0 (((own_seg (((i1 &&& (2147483647 : Int32)) % (33 : Int32)) + (1 : Int32))) - (1 : Int64)).toInt32))), .unset] [])) (fun _ k => XS.istore X79.here hx rfl (hb hby at_315) rfl (l' := #[.val (.int i1), .val (.long i2), .second, .val (.ref b1), .val (.int ((i1 &&& (2147483647 : Int32)) % (33 : Int32))), .val (.long (own_seg ((i1 &&& (2147483647 : Int32)) % (33 : Int32)))), .second, .val (.long ((own_seg (((i1 &&& (2147483647 : Int32)) % (33 : Int32)) + (1 : Int32))) - (1 : Int64))), .second, .val (.long ((own_seg (((i1 &&& (2147483647 : Int32)) % (33 : Int32)) + (1 : Int32))) - (own_seg ((i1 &&& (2147483647 : Int32)) % (33 : Int32))))), .second, .val (.long ((own_seg ((i1 &&& (2147483647 : Int32)) % (33 : Int32))) + ((i2 &&& (9223372036854775807 : Int64)) % ((own_seg (((i1 &&& (2147483647 : Int32)) % (33 : Int32)) + (1 : Int32))) - (own_seg ((i1 &&& (2147483647 : Int32)) % (33 : Int32))))))), .second, .val (.int v291_77_s0), .val (.int (own_ns_0 ((own_seg ((i1 &&& (2147483647 : Int32)) % (33 : Int32))).toInt32))), .val (.int (own_ns_0 (((own_seg (((i1 &&& (2147483647 : Int32)) % (33 : Int32)) + (1 : Int32))) - (1 : Int64)).toInt32))), .unset]) rfl k) ?_
    refine own_step (f' := (mkF m 319 #[.val (.int i1), .val (.long i2), .second, .val (.ref b1), .val (.int ((i1 &&& (2147483647 : Int32)) % (33 : Int32))), .val (.long (own_seg ((i1 &&& (2147483647 : Int32)) % (33 : Int32)))), .second, .val (.long ((own_seg (((i1 &&& (2147483647 : Int32)) % (33 : Int32)) + (1 : Int32))) - (1 : Int64))), .second, .val (.long ((own_seg (((i1 &&& (2147483647 : Int32)) % (33 : Int32)) + (1 : Int32))) - (own_seg ((i1 &&& (2147483647 : Int32)) % (33 : Int32))))), .second, .val (.long ((own_seg ((i1 &&& (2147483647 : Int32)) % (33 : Int32))) + ((i2 &&& (9223372036854775807 : Int64)) % ((own_seg (((i1 &&& (2147483647 : Int32)) % (33 : Int32)) + (1 : Int32))) - (own_seg ((i1 &&& (2147483647 : Int32)) % (33 : Int32))))))), .second, .val (.int v291_77_s0), .val (.int (own_ns_0 ((own_seg ((i1 &&& (2147483647 : Int32)) % (33 : Int32))).toInt32))), .val (.int (own_ns_0 (((own_seg (((i1 &&& (2147483647 : Int32)) % (33 : Int32)) + (1 : Int32))) - (1 : Int64)).toInt32))), .unset] [(.long ((own_seg ((i1 &&& (2147483647 : Int32)) % (33 : Int32))) + ((i2 &&& (9223372036854775807 : Int64)) % ((own_seg (((i1 &&& (2147483647 : Int32)) % (33 : Int32)) + (1 : Int32))) - (own_seg ((i1 &&& (2147483647 : Int32)) % (33 : Int32)))))))])) (fun _ k => XS.lload X79.here hx rfl (hb hby at_317) rfl k) ?_
    refine own_step (f' := (mkF m 320 #[.val (.int i1), .val (.long i2), .second, .val (.ref b1), .val (.int ((i1 &&& (2147483647 : Int32)) % (33 : Int32))), .val (.long (own_seg ((i1 &&& (2147483647 : Int32)) % (33 : Int32)))), .second, .val (.long ((own_seg (((i1 &&& (2147483647 : Int32)) % (33 : Int32)) + (1 : Int32))) - (1 : Int64))), .second, .val (.long ((own_seg (((i1 &&& (2147483647 : Int32)) % (33 : Int32)) + (1 : Int32))) - (own_seg ((i1 &&& (2147483647 : Int32)) % (33 : Int32))))), .second, .val (.long ((own_seg ((i1 &&& (2147483647 : Int32)) % (33 : Int32))) + ((i2 &&& (9223372036854775807 : Int64)) % ((own_seg (((i1 &&& (2147483647 : Int32)) % (33 : Int32)) + (1 : Int32))) - (own_seg ((i1 &&& (2147483647 : Int32)) % (33 : Int32))))))), .second, .val (.int v291_77_s0), .val (.int (own_ns_0 ((own_seg ((i1 &&& (2147483647 : Int32)) % (33 : Int32))).toInt32))), .val (.int (own_ns_0 (((own_seg (((i1 &&& (2147483647 : Int32)) % (33 : Int32)) + (1 : Int32))) - (1 : Int64)).toInt32))), .unset] [(.int (((own_seg ((i1 &&& (2147483647 : Int32)) % (33 : Int32))) + ((i2 &&& (9223372036854775807 : Int64)) % ((own_seg (((i1 &&& (2147483647 : Int32)) % (33 : Int32)) + (1 : Int32))) - (own_seg ((i1 &&& (2147483647 : Int32)) % (33 : Int32)))))).toInt32))])) (fun _ k => XS.l2i X79.here hx rfl (hb hby at_319) rfl k) ?_
    have Zq80 : n0 ≤ h69.size := (Nat.le_trans (Nat.le_trans (Nat.le_trans (Nat.le_trans (Nat.le_trans (Nat.le_trans (Nat.le_trans (Nat.le_trans (Nat.le_trans (Nat.le_trans (Nat.le_trans (Nat.le_trans (Nat.le_trans (Nat.le_trans (Nat.le_trans (Nat.le_trans (Nat.le_trans (Nat.le_trans (Nat.le_trans (Nat.le_trans (Nat.le_trans (Nat.le_trans (Nat.le_trans (Nat.le_trans (Nat.le_trans (Nat.le_trans (Nat.le_trans (Nat.le_trans (Nat.le_trans (Nat.le_trans (Nat.le_trans (Nat.le_trans (Nat.le_trans (Nat.le_trans (Nat.le_trans Z0 E1.1) (Nat.le_of_eq W3.size.symm)) (Nat.le_of_eq W5.size.symm)) (Nat.le_of_eq W7.size.symm)) (Nat.le_of_eq W9.size.symm)) (Nat.le_of_eq W11.size.symm)) (Nat.le_of_eq W13.size.symm)) (Nat.le_of_eq W15.size.symm)) (Nat.le_of_eq W17.size.symm)) (Nat.le_of_eq W19.size.symm)) (Nat.le_of_eq W21.size.symm)) (Nat.le_of_eq W23.size.symm)) (Nat.le_of_eq W25.size.symm)) (Nat.le_of_eq W27.size.symm)) (Nat.le_of_eq W29.size.symm)) (Nat.le_of_eq W31.size.symm)) (Nat.le_of_eq W33.size.symm)) (Nat.le_of_eq W35.size.symm)) (Nat.le_of_eq W37.size.symm)) (Nat.le_of_eq W39.size.symm)) (Nat.le_of_eq W41.size.symm)) (Nat.le_of_eq W43.size.symm)) (Nat.le_of_eq W45.size.symm)) (Nat.le_of_eq W47.size.symm)) (Nat.le_of_eq W49.size.symm)) (Nat.le_of_eq W51.size.symm)) (Nat.le_of_eq W53.size.symm)) (Nat.le_of_eq W55.size.symm)) (Nat.le_of_eq W57.size.symm)) (Nat.le_of_eq W59.size.symm)) (Nat.le_of_eq W61.size.symm)) (Nat.le_of_eq W63.size.symm)) (Nat.le_of_eq W65.size.symm)) (Nat.le_of_eq W67.size.symm)) (Nat.le_of_eq W69.size.symm))
    obtain ⟨_, _, ⟨T80, L80, k80, n80⟩, -, X80, ⟨Lc80, hQ80, l80, y80, z80⟩, st80⟩ := Jvm.LawKit.callS X79 hx (y := (⟨"com/example/valbonne/valbonne/schema/XmlChars", "isNameStartChar", "(I)Z"⟩ : MethodName)) hown (mvT hZ (hw _ (List.mem_of_getElem? (i := 37) rfl))) (mvT hZ (hw _ (List.mem_of_getElem? (i := 38) rfl))) (mvT hZ (hw _ (List.mem_of_getElem? (i := 39) rfl))) (mvT hZ (hw _ (List.mem_of_getElem? (i := 40) rfl))) (by decide) (backOf (W := 0) (rm1 l Z a0 hw [] (((own_seg ((i1 &&& (2147483647 : Int32)) % (33 : Int32))) + ((i2 &&& (9223372036854775807 : Int64)) % ((own_seg (((i1 &&& (2147483647 : Int32)) % (33 : Int32)) + (1 : Int32))) - (own_seg ((i1 &&& (2147483647 : Int32)) % (33 : Int32)))))).toInt32) h69 n0 Zq80 ) hZ (hw _ (List.mem_of_getElem? (i := 40) rfl)) (hw _ (List.mem_of_getElem? (i := 39) rfl)) (by decide) (by decide)) (g := (mkF m 320 #[.val (.int i1), .val (.long i2), .second, .val (.ref b1), .val (.int ((i1 &&& (2147483647 : Int32)) % (33 : Int32))), .val (.long (own_seg ((i1 &&& (2147483647 : Int32)) % (33 : Int32)))), .second, .val (.long ((own_seg (((i1 &&& (2147483647 : Int32)) % (33 : Int32)) + (1 : Int32))) - (1 : Int64))), .second, .val (.long ((own_seg (((i1 &&& (2147483647 : Int32)) % (33 : Int32)) + (1 : Int32))) - (own_seg ((i1 &&& (2147483647 : Int32)) % (33 : Int32))))), .second, .val (.long ((own_seg ((i1 &&& (2147483647 : Int32)) % (33 : Int32))) + ((i2 &&& (9223372036854775807 : Int64)) % ((own_seg (((i1 &&& (2147483647 : Int32)) % (33 : Int32)) + (1 : Int32))) - (own_seg ((i1 &&& (2147483647 : Int32)) % (33 : Int32))))))), .second, .val (.int v291_77_s0), .val (.int (own_ns_0 ((own_seg ((i1 &&& (2147483647 : Int32)) % (33 : Int32))).toInt32))), .val (.int (own_ns_0 (((own_seg (((i1 &&& (2147483647 : Int32)) % (33 : Int32)) + (1 : Int32))) - (1 : Int64)).toInt32))), .unset] [(.int (((own_seg ((i1 &&& (2147483647 : Int32)) % (33 : Int32))) + ((i2 &&& (9223372036854775807 : Int64)) % ((own_seg (((i1 &&& (2147483647 : Int32)) % (33 : Int32)) + (1 : Int32))) - (own_seg ((i1 &&& (2147483647 : Int32)) % (33 : Int32)))))).toInt32))])) rfl (by rw [hml]; rfl) (argsL := [(.int (((own_seg ((i1 &&& (2147483647 : Int32)) % (33 : Int32))) + ((i2 &&& (9223372036854775807 : Int64)) % ((own_seg (((i1 &&& (2147483647 : Int32)) % (33 : Int32)) + (1 : Int32))) - (own_seg ((i1 &&& (2147483647 : Int32)) % (33 : Int32)))))).toInt32))]) (rest := []) (lenOf pd_0 rfl) rfl (by show 2 * 0 + _ ≤ _; exact Nat.le_of_eq rfl) (hb hby at_320) (fun _ _ => ⟨rfl, e79, (by decide : 1 + 0 ≤ _), (by decide : 34 + 0 ≤ _)⟩)
    dsimp only [Pt.U, Pt.locs, Pt.cells, Pt.slots] at X80 l80 y80 z80 st80 hQ80
    subst l80 y80 z80
    obtain ⟨rfl, rfl, e80⟩ := hQ80
    try rw [List.append_nil] at X80
    refine own_step (f' := (mkF m 323 #[.val (.int i1), .val (.long i2), .second, .val (.ref b1), .val (.int ((i1 &&& (2147483647 : Int32)) % (33 : Int32))), .val (.long (own_seg ((i1 &&& (2147483647 : Int32)) % (33 : Int32)))), .second, .val (.long ((own_seg (((i1 &&& (2147483647 : Int32)) % (33 : Int32)) + (1 : Int32))) - (1 : Int64))), .second, .val (.long ((own_seg (((i1 &&& (2147483647 : Int32)) % (33 : Int32)) + (1 : Int32))) - (own_seg ((i1 &&& (2147483647 : Int32)) % (33 : Int32))))), .second, .val (.long ((own_seg ((i1 &&& (2147483647 : Int32)) % (33 : Int32))) + ((i2 &&& (9223372036854775807 : Int64)) % ((own_seg (((i1 &&& (2147483647 : Int32)) % (33 : Int32)) + (1 : Int32))) - (own_seg ((i1 &&& (2147483647 : Int32)) % (33 : Int32))))))), .second, .val (.int v291_77_s0), .val (.int (own_ns_0 ((own_seg ((i1 &&& (2147483647 : Int32)) % (33 : Int32))).toInt32))), .val (.int (own_ns_0 (((own_seg (((i1 &&& (2147483647 : Int32)) % (33 : Int32)) + (1 : Int32))) - (1 : Int64)).toInt32))), .unset] [(.int (own_ns_0 (((own_seg ((i1 &&& (2147483647 : Int32)) % (33 : Int32))) + ((i2 &&& (9223372036854775807 : Int64)) % ((own_seg (((i1 &&& (2147483647 : Int32)) % (33 : Int32)) + (1 : Int32))) - (own_seg ((i1 &&& (2147483647 : Int32)) % (33 : Int32)))))).toInt32)))])) st80 ?_
    refine own_step (f' := (mkF m 325 #[.val (.int i1), .val (.long i2), .second, .val (.ref b1), .val (.int ((i1 &&& (2147483647 : Int32)) % (33 : Int32))), .val (.long (own_seg ((i1 &&& (2147483647 : Int32)) % (33 : Int32)))), .second, .val (.long ((own_seg (((i1 &&& (2147483647 : Int32)) % (33 : Int32)) + (1 : Int32))) - (1 : Int64))), .second, .val (.long ((own_seg (((i1 &&& (2147483647 : Int32)) % (33 : Int32)) + (1 : Int32))) - (own_seg ((i1 &&& (2147483647 : Int32)) % (33 : Int32))))), .second, .val (.long ((own_seg ((i1 &&& (2147483647 : Int32)) % (33 : Int32))) + ((i2 &&& (9223372036854775807 : Int64)) % ((own_seg (((i1 &&& (2147483647 : Int32)) % (33 : Int32)) + (1 : Int32))) - (own_seg ((i1 &&& (2147483647 : Int32)) % (33 : Int32))))))), .second, .val (.int v291_77_s0), .val (.int (own_ns_0 ((own_seg ((i1 &&& (2147483647 : Int32)) % (33 : Int32))).toInt32))), .val (.int (own_ns_0 (((own_seg (((i1 &&& (2147483647 : Int32)) % (33 : Int32)) + (1 : Int32))) - (1 : Int64)).toInt32))), .val (.int (own_ns_0 (((own_seg ((i1 &&& (2147483647 : Int32)) % (33 : Int32))) + ((i2 &&& (9223372036854775807 : Int64)) % ((own_seg (((i1 &&& (2147483647 : Int32)) % (33 : Int32)) + (1 : Int32))) - (own_seg ((i1 &&& (2147483647 : Int32)) % (33 : Int32)))))).toInt32)))] [])) (fun _ k => XS.istore X80.here hx rfl (hb hby at_323) rfl (l' := #[.val (.int i1), .val (.long i2), .second, .val (.ref b1), .val (.int ((i1 &&& (2147483647 : Int32)) % (33 : Int32))), .val (.long (own_seg ((i1 &&& (2147483647 : Int32)) % (33 : Int32)))), .second, .val (.long ((own_seg (((i1 &&& (2147483647 : Int32)) % (33 : Int32)) + (1 : Int32))) - (1 : Int64))), .second, .val (.long ((own_seg (((i1 &&& (2147483647 : Int32)) % (33 : Int32)) + (1 : Int32))) - (own_seg ((i1 &&& (2147483647 : Int32)) % (33 : Int32))))), .second, .val (.long ((own_seg ((i1 &&& (2147483647 : Int32)) % (33 : Int32))) + ((i2 &&& (9223372036854775807 : Int64)) % ((own_seg (((i1 &&& (2147483647 : Int32)) % (33 : Int32)) + (1 : Int32))) - (own_seg ((i1 &&& (2147483647 : Int32)) % (33 : Int32))))))), .second, .val (.int v291_77_s0), .val (.int (own_ns_0 ((own_seg ((i1 &&& (2147483647 : Int32)) % (33 : Int32))).toInt32))), .val (.int (own_ns_0 (((own_seg (((i1 &&& (2147483647 : Int32)) % (33 : Int32)) + (1 : Int32))) - (1 : Int64)).toInt32))), .val (.int (own_ns_0 (((own_seg ((i1 &&& (2147483647 : Int32)) % (33 : Int32))) + ((i2 &&& (9223372036854775807 : Int64)) % ((own_seg (((i1 &&& (2147483647 : Int32)) % (33 : Int32)) + (1 : Int32))) - (own_seg ((i1 &&& (2147483647 : Int32)) % (33 : Int32)))))).toInt32)))]) rfl k) ?_
    refine own_step (f' := (mkF m 327 #[.val (.int i1), .val (.long i2), .second, .val (.ref b1), .val (.int ((i1 &&& (2147483647 : Int32)) % (33 : Int32))), .val (.long (own_seg ((i1 &&& (2147483647 : Int32)) % (33 : Int32)))), .second, .val (.long ((own_seg (((i1 &&& (2147483647 : Int32)) % (33 : Int32)) + (1 : Int32))) - (1 : Int64))), .second, .val (.long ((own_seg (((i1 &&& (2147483647 : Int32)) % (33 : Int32)) + (1 : Int32))) - (own_seg ((i1 &&& (2147483647 : Int32)) % (33 : Int32))))), .second, .val (.long ((own_seg ((i1 &&& (2147483647 : Int32)) % (33 : Int32))) + ((i2 &&& (9223372036854775807 : Int64)) % ((own_seg (((i1 &&& (2147483647 : Int32)) % (33 : Int32)) + (1 : Int32))) - (own_seg ((i1 &&& (2147483647 : Int32)) % (33 : Int32))))))), .second, .val (.int v291_77_s0), .val (.int (own_ns_0 ((own_seg ((i1 &&& (2147483647 : Int32)) % (33 : Int32))).toInt32))), .val (.int (own_ns_0 (((own_seg (((i1 &&& (2147483647 : Int32)) % (33 : Int32)) + (1 : Int32))) - (1 : Int64)).toInt32))), .val (.int (own_ns_0 (((own_seg ((i1 &&& (2147483647 : Int32)) % (33 : Int32))) + ((i2 &&& (9223372036854775807 : Int64)) % ((own_seg (((i1 &&& (2147483647 : Int32)) % (33 : Int32)) + (1 : Int32))) - (own_seg ((i1 &&& (2147483647 : Int32)) % (33 : Int32)))))).toInt32)))] [(.int (own_ns_0 ((own_seg ((i1 &&& (2147483647 : Int32)) % (33 : Int32))).toInt32)))])) (fun _ k => XS.iload X80.here hx rfl (hb hby at_325) rfl k) ?_
    refine own_step (f' := (mkF m 329 #[.val (.int i1), .val (.long i2), .second, .val (.ref b1), .val (.int ((i1 &&& (2147483647 : Int32)) % (33 : Int32))), .val (.long (own_seg ((i1 &&& (2147483647 : Int32)) % (33 : Int32)))), .second, .val (.long ((own_seg (((i1 &&& (2147483647 : Int32)) % (33 : Int32)) + (1 : Int32))) - (1 : Int64))), .second, .val (.long ((own_seg (((i1 &&& (2147483647 : Int32)) % (33 : Int32)) + (1 : Int32))) - (own_seg ((i1 &&& (2147483647 : Int32)) % (33 : Int32))))), .second, .val (.long ((own_seg ((i1 &&& (2147483647 : Int32)) % (33 : Int32))) + ((i2 &&& (9223372036854775807 : Int64)) % ((own_seg (((i1 &&& (2147483647 : Int32)) % (33 : Int32)) + (1 : Int32))) - (own_seg ((i1 &&& (2147483647 : Int32)) % (33 : Int32))))))), .second, .val (.int v291_77_s0), .val (.int (own_ns_0 ((own_seg ((i1 &&& (2147483647 : Int32)) % (33 : Int32))).toInt32))), .val (.int (own_ns_0 (((own_seg (((i1 &&& (2147483647 : Int32)) % (33 : Int32)) + (1 : Int32))) - (1 : Int64)).toInt32))), .val (.int (own_ns_0 (((own_seg ((i1 &&& (2147483647 : Int32)) % (33 : Int32))) + ((i2 &&& (9223372036854775807 : Int64)) % ((own_seg (((i1 &&& (2147483647 : Int32)) % (33 : Int32)) + (1 : Int32))) - (own_seg ((i1 &&& (2147483647 : Int32)) % (33 : Int32)))))).toInt32)))] [(.int v291_77_s0), (.int (own_ns_0 ((own_seg ((i1 &&& (2147483647 : Int32)) % (33 : Int32))).toInt32)))])) (fun _ k => XS.iload X80.here hx rfl (hb hby at_327) rfl k) ?_
    have hf329_81 : (own_ns_0 ((own_seg ((i1 &&& (2147483647 : Int32)) % (33 : Int32))).toInt32)) = v291_77_s0 := hfin.1
    refine own_step (f' := (mkF m 332 #[.val (.int i1), .val (.long i2), .second, .val (.ref b1), .val (.int ((i1 &&& (2147483647 : Int32)) % (33 : Int32))), .val (.long (own_seg ((i1 &&& (2147483647 : Int32)) % (33 : Int32)))), .second, .val (.long ((own_seg (((i1 &&& (2147483647 : Int32)) % (33 : Int32)) + (1 : Int32))) - (1 : Int64))), .second, .val (.long ((own_seg (((i1 &&& (2147483647 : Int32)) % (33 : Int32)) + (1 : Int32))) - (own_seg ((i1 &&& (2147483647 : Int32)) % (33 : Int32))))), .second, .val (.long ((own_seg ((i1 &&& (2147483647 : Int32)) % (33 : Int32))) + ((i2 &&& (9223372036854775807 : Int64)) % ((own_seg (((i1 &&& (2147483647 : Int32)) % (33 : Int32)) + (1 : Int32))) - (own_seg ((i1 &&& (2147483647 : Int32)) % (33 : Int32))))))), .second, .val (.int v291_77_s0), .val (.int (own_ns_0 ((own_seg ((i1 &&& (2147483647 : Int32)) % (33 : Int32))).toInt32))), .val (.int (own_ns_0 (((own_seg (((i1 &&& (2147483647 : Int32)) % (33 : Int32)) + (1 : Int32))) - (1 : Int64)).toInt32))), .val (.int (own_ns_0 (((own_seg ((i1 &&& (2147483647 : Int32)) % (33 : Int32))) + ((i2 &&& (9223372036854775807 : Int64)) % ((own_seg (((i1 &&& (2147483647 : Int32)) % (33 : Int32)) + (1 : Int32))) - (own_seg ((i1 &&& (2147483647 : Int32)) % (33 : Int32)))))).toInt32)))] [])) (fun _ k => XS.icmpNo X80.here hx rfl (hb hby at_329) rfl (teq hf329_81).2 k) ?_
    refine own_step (f' := (mkF m 334 #[.val (.int i1), .val (.long i2), .second, .val (.ref b1), .val (.int ((i1 &&& (2147483647 : Int32)) % (33 : Int32))), .val (.long (own_seg ((i1 &&& (2147483647 : Int32)) % (33 : Int32)))), .second, .val (.long ((own_seg (((i1 &&& (2147483647 : Int32)) % (33 : Int32)) + (1 : Int32))) - (1 : Int64))), .second, .val (.long ((own_seg (((i1 &&& (2147483647 : Int32)) % (33 : Int32)) + (1 : Int32))) - (own_seg ((i1 &&& (2147483647 : Int32)) % (33 : Int32))))), .second, .val (.long ((own_seg ((i1 &&& (2147483647 : Int32)) % (33 : Int32))) + ((i2 &&& (9223372036854775807 : Int64)) % ((own_seg (((i1 &&& (2147483647 : Int32)) % (33 : Int32)) + (1 : Int32))) - (own_seg ((i1 &&& (2147483647 : Int32)) % (33 : Int32))))))), .second, .val (.int v291_77_s0), .val (.int (own_ns_0 ((own_seg ((i1 &&& (2147483647 : Int32)) % (33 : Int32))).toInt32))), .val (.int (own_ns_0 (((own_seg (((i1 &&& (2147483647 : Int32)) % (33 : Int32)) + (1 : Int32))) - (1 : Int64)).toInt32))), .val (.int (own_ns_0 (((own_seg ((i1 &&& (2147483647 : Int32)) % (33 : Int32))) + ((i2 &&& (9223372036854775807 : Int64)) % ((own_seg (((i1 &&& (2147483647 : Int32)) % (33 : Int32)) + (1 : Int32))) - (own_seg ((i1 &&& (2147483647 : Int32)) % (33 : Int32)))))).toInt32)))] [(.int (own_ns_0 (((own_seg (((i1 &&& (2147483647 : Int32)) % (33 : Int32)) + (1 : Int32))) - (1 : Int64)).toInt32)))])) (fun _ k => XS.iload X80.here hx rfl (hb hby at_332) rfl k) ?_
    refine own_step (f' := (mkF m 336 #[.val (.int i1), .val (.long i2), .second, .val (.ref b1), .val (.int ((i1 &&& (2147483647 : Int32)) % (33 : Int32))), .val (.long (own_seg ((i1 &&& (2147483647 : Int32)) % (33 : Int32)))), .second, .val (.long ((own_seg (((i1 &&& (2147483647 : Int32)) % (33 : Int32)) + (1 : Int32))) - (1 : Int64))), .second, .val (.long ((own_seg (((i1 &&& (2147483647 : Int32)) % (33 : Int32)) + (1 : Int32))) - (own_seg ((i1 &&& (2147483647 : Int32)) % (33 : Int32))))), .second, .val (.long ((own_seg ((i1 &&& (2147483647 : Int32)) % (33 : Int32))) + ((i2 &&& (9223372036854775807 : Int64)) % ((own_seg (((i1 &&& (2147483647 : Int32)) % (33 : Int32)) + (1 : Int32))) - (own_seg ((i1 &&& (2147483647 : Int32)) % (33 : Int32))))))), .second, .val (.int v291_77_s0), .val (.int (own_ns_0 ((own_seg ((i1 &&& (2147483647 : Int32)) % (33 : Int32))).toInt32))), .val (.int (own_ns_0 (((own_seg (((i1 &&& (2147483647 : Int32)) % (33 : Int32)) + (1 : Int32))) - (1 : Int64)).toInt32))), .val (.int (own_ns_0 (((own_seg ((i1 &&& (2147483647 : Int32)) % (33 : Int32))) + ((i2 &&& (9223372036854775807 : Int64)) % ((own_seg (((i1 &&& (2147483647 : Int32)) % (33 : Int32)) + (1 : Int32))) - (own_seg ((i1 &&& (2147483647 : Int32)) % (33 : Int32)))))).toInt32)))] [(.int v291_77_s0), (.int (own_ns_0 (((own_seg (((i1 &&& (2147483647 : Int32)) % (33 : Int32)) + (1 : Int32))) - (1 : Int64)).toInt32)))])) (fun _ k => XS.iload X80.here hx rfl (hb hby at_334) rfl k) ?_
    have hf336_82 : (own_ns_0 (((own_seg (((i1 &&& (2147483647 : Int32)) % (33 : Int32)) + (1 : Int32))) - (1 : Int64)).toInt32)) = v291_77_s0 := hfin.2.1
    refine own_step (f' := (mkF m 339 #[.val (.int i1), .val (.long i2), .second, .val (.ref b1), .val (.int ((i1 &&& (2147483647 : Int32)) % (33 : Int32))), .val (.long (own_seg ((i1 &&& (2147483647 : Int32)) % (33 : Int32)))), .second, .val (.long ((own_seg (((i1 &&& (2147483647 : Int32)) % (33 : Int32)) + (1 : Int32))) - (1 : Int64))), .second, .val (.long ((own_seg (((i1 &&& (2147483647 : Int32)) % (33 : Int32)) + (1 : Int32))) - (own_seg ((i1 &&& (2147483647 : Int32)) % (33 : Int32))))), .second, .val (.long ((own_seg ((i1 &&& (2147483647 : Int32)) % (33 : Int32))) + ((i2 &&& (9223372036854775807 : Int64)) % ((own_seg (((i1 &&& (2147483647 : Int32)) % (33 : Int32)) + (1 : Int32))) - (own_seg ((i1 &&& (2147483647 : Int32)) % (33 : Int32))))))), .second, .val (.int v291_77_s0), .val (.int (own_ns_0 ((own_seg ((i1 &&& (2147483647 : Int32)) % (33 : Int32))).toInt32))), .val (.int (own_ns_0 (((own_seg (((i1 &&& (2147483647 : Int32)) % (33 : Int32)) + (1 : Int32))) - (1 : Int64)).toInt32))), .val (.int (own_ns_0 (((own_seg ((i1 &&& (2147483647 : Int32)) % (33 : Int32))) + ((i2 &&& (9223372036854775807 : Int64)) % ((own_seg (((i1 &&& (2147483647 : Int32)) % (33 : Int32)) + (1 : Int32))) - (own_seg ((i1 &&& (2147483647 : Int32)) % (33 : Int32)))))).toInt32)))] [])) (fun _ k => XS.icmpNo X80.here hx rfl (hb hby at_336) rfl (teq hf336_82).2 k) ?_
    refine own_step (f' := (mkF m 341 #[.val (.int i1), .val (.long i2), .second, .val (.ref b1), .val (.int ((i1 &&& (2147483647 : Int32)) % (33 : Int32))), .val (.long (own_seg ((i1 &&& (2147483647 : Int32)) % (33 : Int32)))), .second, .val (.long ((own_seg (((i1 &&& (2147483647 : Int32)) % (33 : Int32)) + (1 : Int32))) - (1 : Int64))), .second, .val (.long ((own_seg (((i1 &&& (2147483647 : Int32)) % (33 : Int32)) + (1 : Int32))) - (own_seg ((i1 &&& (2147483647 : Int32)) % (33 : Int32))))), .second, .val (.long ((own_seg ((i1 &&& (2147483647 : Int32)) % (33 : Int32))) + ((i2 &&& (9223372036854775807 : Int64)) % ((own_seg (((i1 &&& (2147483647 : Int32)) % (33 : Int32)) + (1 : Int32))) - (own_seg ((i1 &&& (2147483647 : Int32)) % (33 : Int32))))))), .second, .val (.int v291_77_s0), .val (.int (own_ns_0 ((own_seg ((i1 &&& (2147483647 : Int32)) % (33 : Int32))).toInt32))), .val (.int (own_ns_0 (((own_seg (((i1 &&& (2147483647 : Int32)) % (33 : Int32)) + (1 : Int32))) - (1 : Int64)).toInt32))), .val (.int (own_ns_0 (((own_seg ((i1 &&& (2147483647 : Int32)) % (33 : Int32))) + ((i2 &&& (9223372036854775807 : Int64)) % ((own_seg (((i1 &&& (2147483647 : Int32)) % (33 : Int32)) + (1 : Int32))) - (own_seg ((i1 &&& (2147483647 : Int32)) % (33 : Int32)))))).toInt32)))] [(.int (own_ns_0 (((own_seg ((i1 &&& (2147483647 : Int32)) % (33 : Int32))) + ((i2 &&& (9223372036854775807 : Int64)) % ((own_seg (((i1 &&& (2147483647 : Int32)) % (33 : Int32)) + (1 : Int32))) - (own_seg ((i1 &&& (2147483647 : Int32)) % (33 : Int32)))))).toInt32)))])) (fun _ k => XS.iload X80.here hx rfl (hb hby at_339) rfl k) ?_
    refine own_step (f' := (mkF m 343 #[.val (.int i1), .val (.long i2), .second, .val (.ref b1), .val (.int ((i1 &&& (2147483647 : Int32)) % (33 : Int32))), .val (.long (own_seg ((i1 &&& (2147483647 : Int32)) % (33 : Int32)))), .second, .val (.long ((own_seg (((i1 &&& (2147483647 : Int32)) % (33 : Int32)) + (1 : Int32))) - (1 : Int64))), .second, .val (.long ((own_seg (((i1 &&& (2147483647 : Int32)) % (33 : Int32)) + (1 : Int32))) - (own_seg ((i1 &&& (2147483647 : Int32)) % (33 : Int32))))), .second, .val (.long ((own_seg ((i1 &&& (2147483647 : Int32)) % (33 : Int32))) + ((i2 &&& (9223372036854775807 : Int64)) % ((own_seg (((i1 &&& (2147483647 : Int32)) % (33 : Int32)) + (1 : Int32))) - (own_seg ((i1 &&& (2147483647 : Int32)) % (33 : Int32))))))), .second, .val (.int v291_77_s0), .val (.int (own_ns_0 ((own_seg ((i1 &&& (2147483647 : Int32)) % (33 : Int32))).toInt32))), .val (.int (own_ns_0 (((own_seg (((i1 &&& (2147483647 : Int32)) % (33 : Int32)) + (1 : Int32))) - (1 : Int64)).toInt32))), .val (.int (own_ns_0 (((own_seg ((i1 &&& (2147483647 : Int32)) % (33 : Int32))) + ((i2 &&& (9223372036854775807 : Int64)) % ((own_seg (((i1 &&& (2147483647 : Int32)) % (33 : Int32)) + (1 : Int32))) - (own_seg ((i1 &&& (2147483647 : Int32)) % (33 : Int32)))))).toInt32)))] [(.int v291_77_s0), (.int (own_ns_0 (((own_seg ((i1 &&& (2147483647 : Int32)) % (33 : Int32))) + ((i2 &&& (9223372036854775807 : Int64)) % ((own_seg (((i1 &&& (2147483647 : Int32)) % (33 : Int32)) + (1 : Int32))) - (own_seg ((i1 &&& (2147483647 : Int32)) % (33 : Int32)))))).toInt32)))])) (fun _ k => XS.iload X80.here hx rfl (hb hby at_341) rfl k) ?_
    have hf343_83 : (own_ns_0 (((own_seg ((i1 &&& (2147483647 : Int32)) % (33 : Int32))) + ((i2 &&& (9223372036854775807 : Int64)) % ((own_seg (((i1 &&& (2147483647 : Int32)) % (33 : Int32)) + (1 : Int32))) - (own_seg ((i1 &&& (2147483647 : Int32)) % (33 : Int32)))))).toInt32)) = v291_77_s0 := hfin.2.2
    refine own_step (f' := (mkF m 346 #[.val (.int i1), .val (.long i2), .second, .val (.ref b1), .val (.int ((i1 &&& (2147483647 : Int32)) % (33 : Int32))), .val (.long (own_seg ((i1 &&& (2147483647 : Int32)) % (33 : Int32)))), .second, .val (.long ((own_seg (((i1 &&& (2147483647 : Int32)) % (33 : Int32)) + (1 : Int32))) - (1 : Int64))), .second, .val (.long ((own_seg (((i1 &&& (2147483647 : Int32)) % (33 : Int32)) + (1 : Int32))) - (own_seg ((i1 &&& (2147483647 : Int32)) % (33 : Int32))))), .second, .val (.long ((own_seg ((i1 &&& (2147483647 : Int32)) % (33 : Int32))) + ((i2 &&& (9223372036854775807 : Int64)) % ((own_seg (((i1 &&& (2147483647 : Int32)) % (33 : Int32)) + (1 : Int32))) - (own_seg ((i1 &&& (2147483647 : Int32)) % (33 : Int32))))))), .second, .val (.int v291_77_s0), .val (.int (own_ns_0 ((own_seg ((i1 &&& (2147483647 : Int32)) % (33 : Int32))).toInt32))), .val (.int (own_ns_0 (((own_seg (((i1 &&& (2147483647 : Int32)) % (33 : Int32)) + (1 : Int32))) - (1 : Int64)).toInt32))), .val (.int (own_ns_0 (((own_seg ((i1 &&& (2147483647 : Int32)) % (33 : Int32))) + ((i2 &&& (9223372036854775807 : Int64)) % ((own_seg (((i1 &&& (2147483647 : Int32)) % (33 : Int32)) + (1 : Int32))) - (own_seg ((i1 &&& (2147483647 : Int32)) % (33 : Int32)))))).toInt32)))] [])) (fun _ k => XS.icmpNo X80.here hx rfl (hb hby at_343) rfl (teq hf343_83).2 k) ?_
    refine own_step (f' := (mkF m 347 #[.val (.int i1), .val (.long i2), .second, .val (.ref b1), .val (.int ((i1 &&& (2147483647 : Int32)) % (33 : Int32))), .val (.long (own_seg ((i1 &&& (2147483647 : Int32)) % (33 : Int32)))), .second, .val (.long ((own_seg (((i1 &&& (2147483647 : Int32)) % (33 : Int32)) + (1 : Int32))) - (1 : Int64))), .second, .val (.long ((own_seg (((i1 &&& (2147483647 : Int32)) % (33 : Int32)) + (1 : Int32))) - (own_seg ((i1 &&& (2147483647 : Int32)) % (33 : Int32))))), .second, .val (.long ((own_seg ((i1 &&& (2147483647 : Int32)) % (33 : Int32))) + ((i2 &&& (9223372036854775807 : Int64)) % ((own_seg (((i1 &&& (2147483647 : Int32)) % (33 : Int32)) + (1 : Int32))) - (own_seg ((i1 &&& (2147483647 : Int32)) % (33 : Int32))))))), .second, .val (.int v291_77_s0), .val (.int (own_ns_0 ((own_seg ((i1 &&& (2147483647 : Int32)) % (33 : Int32))).toInt32))), .val (.int (own_ns_0 (((own_seg (((i1 &&& (2147483647 : Int32)) % (33 : Int32)) + (1 : Int32))) - (1 : Int64)).toInt32))), .val (.int (own_ns_0 (((own_seg ((i1 &&& (2147483647 : Int32)) % (33 : Int32))) + ((i2 &&& (9223372036854775807 : Int64)) % ((own_seg (((i1 &&& (2147483647 : Int32)) % (33 : Int32)) + (1 : Int32))) - (own_seg ((i1 &&& (2147483647 : Int32)) % (33 : Int32)))))).toInt32)))] [(.int (1 : Int32))])) (fun _ k => XS.iconst X80.here hx rfl (hb hby at_346) k) ?_
    refine own_step (f' := (mkF m 351 #[.val (.int i1), .val (.long i2), .second, .val (.ref b1), .val (.int ((i1 &&& (2147483647 : Int32)) % (33 : Int32))), .val (.long (own_seg ((i1 &&& (2147483647 : Int32)) % (33 : Int32)))), .second, .val (.long ((own_seg (((i1 &&& (2147483647 : Int32)) % (33 : Int32)) + (1 : Int32))) - (1 : Int64))), .second, .val (.long ((own_seg (((i1 &&& (2147483647 : Int32)) % (33 : Int32)) + (1 : Int32))) - (own_seg ((i1 &&& (2147483647 : Int32)) % (33 : Int32))))), .second, .val (.long ((own_seg ((i1 &&& (2147483647 : Int32)) % (33 : Int32))) + ((i2 &&& (9223372036854775807 : Int64)) % ((own_seg (((i1 &&& (2147483647 : Int32)) % (33 : Int32)) + (1 : Int32))) - (own_seg ((i1 &&& (2147483647 : Int32)) % (33 : Int32))))))), .second, .val (.int v291_77_s0), .val (.int (own_ns_0 ((own_seg ((i1 &&& (2147483647 : Int32)) % (33 : Int32))).toInt32))), .val (.int (own_ns_0 (((own_seg (((i1 &&& (2147483647 : Int32)) % (33 : Int32)) + (1 : Int32))) - (1 : Int64)).toInt32))), .val (.int (own_ns_0 (((own_seg ((i1 &&& (2147483647 : Int32)) % (33 : Int32))) + ((i2 &&& (9223372036854775807 : Int64)) % ((own_seg (((i1 &&& (2147483647 : Int32)) % (33 : Int32)) + (1 : Int32))) - (own_seg ((i1 &&& (2147483647 : Int32)) % (33 : Int32)))))).toInt32)))] [(.int (1 : Int32))])) (fun _ k => XS.goto X80.here hx rfl (pc0 := 347) (pc' := 351) rfl (hb hby at_347) (by decide) (by decide) k) ?_
    refine own_out (v := some (.int (1 : Int32))) X80 hlk (fun h => by rw [Bd.returns] at h; cases h) (fun fs hr => retN X80 hx (t := .boolean) Bd.returns (by simp) (hb hby at_351) hr) (by decide) (by decide) ?_
    exact ⟨rfl, N69⟩
  by_cases hc291_76 : (((i1 &&& (2147483647 : Int32)) % (33 : Int32)) &&& (1 : Int32)) = (1 : Int32)
  · refine own_step (f' := (mkF m 294 #[.val (.int i1), .val (.long i2), .second, .val (.ref b1), .val (.int ((i1 &&& (2147483647 : Int32)) % (33 : Int32))), .val (.long (own_seg ((i1 &&& (2147483647 : Int32)) % (33 : Int32)))), .second, .val (.long ((own_seg (((i1 &&& (2147483647 : Int32)) % (33 : Int32)) + (1 : Int32))) - (1 : Int64))), .second, .val (.long ((own_seg (((i1 &&& (2147483647 : Int32)) % (33 : Int32)) + (1 : Int32))) - (own_seg ((i1 &&& (2147483647 : Int32)) % (33 : Int32))))), .second, .val (.long ((own_seg ((i1 &&& (2147483647 : Int32)) % (33 : Int32))) + ((i2 &&& (9223372036854775807 : Int64)) % ((own_seg (((i1 &&& (2147483647 : Int32)) % (33 : Int32)) + (1 : Int32))) - (own_seg ((i1 &&& (2147483647 : Int32)) % (33 : Int32))))))), .second, .unset, .unset, .unset, .unset] [])) (fun _ k => XS.icmpNo X69.here hx rfl (hb hby at_291) rfl (teq hc291_76).2 k) ?_
    refine own_step (f' := (mkF m 295 #[.val (.int i1), .val (.long i2), .second, .val (.ref b1), .val (.int ((i1 &&& (2147483647 : Int32)) % (33 : Int32))), .val (.long (own_seg ((i1 &&& (2147483647 : Int32)) % (33 : Int32)))), .second, .val (.long ((own_seg (((i1 &&& (2147483647 : Int32)) % (33 : Int32)) + (1 : Int32))) - (1 : Int64))), .second, .val (.long ((own_seg (((i1 &&& (2147483647 : Int32)) % (33 : Int32)) + (1 : Int32))) - (own_seg ((i1 &&& (2147483647 : Int32)) % (33 : Int32))))), .second, .val (.long ((own_seg ((i1 &&& (2147483647 : Int32)) % (33 : Int32))) + ((i2 &&& (9223372036854775807 : Int64)) % ((own_seg (((i1 &&& (2147483647 : Int32)) % (33 : Int32)) + (1 : Int32))) - (own_seg ((i1 &&& (2147483647 : Int32)) % (33 : Int32))))))), .second, .unset, .unset, .unset, .unset] [(.int (1 : Int32))])) (fun _ k => XS.iconst X69.here hx rfl (hb hby at_294) k) ?_
    refine own_step (f' := (mkF m 299 #[.val (.int i1), .val (.long i2), .second, .val (.ref b1), .val (.int ((i1 &&& (2147483647 : Int32)) % (33 : Int32))), .val (.long (own_seg ((i1 &&& (2147483647 : Int32)) % (33 : Int32)))), .second, .val (.long ((own_seg (((i1 &&& (2147483647 : Int32)) % (33 : Int32)) + (1 : Int32))) - (1 : Int64))), .second, .val (.long ((own_seg (((i1 &&& (2147483647 : Int32)) % (33 : Int32)) + (1 : Int32))) - (own_seg ((i1 &&& (2147483647 : Int32)) % (33 : Int32))))), .second, .val (.long ((own_seg ((i1 &&& (2147483647 : Int32)) % (33 : Int32))) + ((i2 &&& (9223372036854775807 : Int64)) % ((own_seg (((i1 &&& (2147483647 : Int32)) % (33 : Int32)) + (1 : Int32))) - (own_seg ((i1 &&& (2147483647 : Int32)) % (33 : Int32))))))), .second, .unset, .unset, .unset, .unset] [(.int (1 : Int32))])) (fun _ k => XS.goto X69.here hx rfl (pc0 := 295) (pc' := 299) rfl (hb hby at_295) (by decide) (by decide) k) ?_
    exact J291_77 _ (1 : Int32) X69 e69 (by rw [if_pos hc291_76])
  · refine own_step (f' := (mkF m 298 #[.val (.int i1), .val (.long i2), .second, .val (.ref b1), .val (.int ((i1 &&& (2147483647 : Int32)) % (33 : Int32))), .val (.long (own_seg ((i1 &&& (2147483647 : Int32)) % (33 : Int32)))), .second, .val (.long ((own_seg (((i1 &&& (2147483647 : Int32)) % (33 : Int32)) + (1 : Int32))) - (1 : Int64))), .second, .val (.long ((own_seg (((i1 &&& (2147483647 : Int32)) % (33 : Int32)) + (1 : Int32))) - (own_seg ((i1 &&& (2147483647 : Int32)) % (33 : Int32))))), .second, .val (.long ((own_seg ((i1 &&& (2147483647 : Int32)) % (33 : Int32))) + ((i2 &&& (9223372036854775807 : Int64)) % ((own_seg (((i1 &&& (2147483647 : Int32)) % (33 : Int32)) + (1 : Int32))) - (own_seg ((i1 &&& (2147483647 : Int32)) % (33 : Int32))))))), .second, .unset, .unset, .unset, .unset] [])) (fun _ k => XS.icmpYes X69.here hx rfl (pc0 := 291) (pc' := 298) rfl (hb hby at_291) rfl (feq hc291_76).2 (by decide) (by decide) k) ?_
    refine own_step (f' := (mkF m 299 #[.val (.int i1), .val (.long i2), .second, .val (.ref b1), .val (.int ((i1 &&& (2147483647 : Int32)) % (33 : Int32))), .val (.long (own_seg ((i1 &&& (2147483647 : Int32)) % (33 : Int32)))), .second, .val (.long ((own_seg (((i1 &&& (2147483647 : Int32)) % (33 : Int32)) + (1 : Int32))) - (1 : Int64))), .second, .val (.long ((own_seg (((i1 &&& (2147483647 : Int32)) % (33 : Int32)) + (1 : Int32))) - (own_seg ((i1 &&& (2147483647 : Int32)) % (33 : Int32))))), .second, .val (.long ((own_seg ((i1 &&& (2147483647 : Int32)) % (33 : Int32))) + ((i2 &&& (9223372036854775807 : Int64)) % ((own_seg (((i1 &&& (2147483647 : Int32)) % (33 : Int32)) + (1 : Int32))) - (own_seg ((i1 &&& (2147483647 : Int32)) % (33 : Int32))))))), .second, .unset, .unset, .unset, .unset] [(.int (0 : Int32))])) (fun _ k => XS.iconst X69.here hx rfl (hb hby at_298) k) ?_
    exact J291_77 _ (0 : Int32) X69 e69 (by rw [if_neg hc291_76])
set_option maxRecDepth 65536 in
set_option maxHeartbeats 40000000 in
theorem comes_1 {Post : Tables → Env → Array Value → State → Outcome → State → Prop} (hpost : ∀ tb e args s v u, (limb_1_1.after args s (.returned v) u = true ∧ limb_1_2.after args s (.returned v) u = true ∧ True) → FrameEnd s (.returned v) u (Jvm.fieldLocs frame_1_writes args s ++ Jvm.arrayLocs frame_1_arrays args s ++ Jvm.staticLocs frame_1_statics s) 16 192 → Post tb e args s (.returned v) u) :
    ArmFor flags0 classFile x code maxLocals ret World_1 tables_1 room_1 Calls_1 rest_1 Pre_1 Post := by
  intro l hfl _ _ p e ha hc hk s m args below hf hA hF happ hP
  obtain ⟨hcalls, hrest, hpre⟩ := hP
  obtain ⟨-, -, -, hnamed, -, -, -, hat⟩ := (Spec.applies_iff hf).mp happ
  obtain ⟨hg, hn⟩ := and_e (Cond.before_iff.mp (show (Jvm.Cond.and given_1 narrow_1).before args s = true from hpre))
  obtain ⟨gq1, gq2⟩ := and_e hg
  obtain ⟨gq3, gq4⟩ := and_e gq2
  obtain ⟨w0, w1, rfl⟩ : ∃ w0 w1 : Value, args = #[w0, w1] := by
    have hs : args.size = 2 := by simpa [Cond.value, given_1] using gq1
    obtain ⟨L⟩ := args
    match L, hs with
    | [w0, w1], _ => exact ⟨w0, w1, rfl⟩
  have hw := fun d (hd : d ∈ tables_1) => atoms_spec (ws := Jvm.Cond.code x code maxLocals ret :: tables_1) hat d (List.mem_cons_of_mem _ hd)
  have hfit : Fit s := fun {y c} hc i hi => by
    obtain ⟨ha, rfl⟩ := Array.getElem?_eq_some_iff.mp hc
    have q := List.all_eq_true.mp ((Array.all_eq_true_iff_forall_mem.mp hF) _ (Array.getElem_mem ha)) i (List.mem_range.mpr hi)
    simpa [Array.getElem?_eq_getElem hi] using q
  obtain ⟨i0, ei0⟩ := is_v gq3
  obtain rfl : w0 = (.int i0) := Option.some.inj ei0
  obtain ⟨i1, ei1⟩ := isL_v gq4
  obtain rfl : w1 = (.long i1) := Option.some.inj ei1
  obtain ⟨n, o, h1, h2, h3, _, L, rfl, ⟨rfl, N⟩, hq⟩ := rm0 l s _ hw tables_1 i0 i1  s.heap s.heap.size (Nat.le_refl _)  p e ha hc hk s m _ below hf ((Spec.applies_iff_loose hf).mp happ).1 ⟨rfl, State.Warmed39.refl s, rfl⟩ trivial
  refine ⟨n, _, h1, h2, h3, hpost _ _ _ _ _ _ ⟨Cond.after_iff.mpr rfl, Cond.after_iff.mpr (eq_i res_at (Term.int_eval (1)) rfl), trivial⟩ ⟨hq.1, hq.2.1, (hq.2.2.sift fun y hy => Or.inr (N y hy)).mono (by decide) (by decide)⟩⟩
theorem main_1_1 : Claimed_1_1 := comes_1 fun _ _ _ _ _ _ h hF => ⟨h.1, hF⟩
theorem main_1_2 : Claimed_1_2 := comes_1 fun _ _ _ _ _ _ h hF => ⟨h.2.1, hF⟩
end Jvm.Pilot.@@N@@
namespace Jvm.Pilot.@@N@@
open Jvm Jvm.ClassFile Sem Op Lib Jvm.Free Jvm.Stand Jvm.Pilot.@@N@@.Jvm.D
/-! MADE BY PROGRAM (witnessworld.py) out of the Statement's table words and the real class files: 11 classes; the members and pool entries that the words name. The judged class is class 1, her method 1. -/
namespace start1
open Jvm.ClassFile
def u (s : String) : CpInfo := .utf8 (stringToUtf16 s)
/-- a pool by its gaps: so many unusable entries, then the entry; so many at the end -/
def gap : Nat → List CpInfo → List CpInfo
  | 0, r => r
  | n + 1, r => .unusable :: gap n r
def poolList (es : List (Nat × CpInfo)) (last : Nat) : List CpInfo := es.foldr (fun e r => gap e.1 (e.2 :: r)) (gap last [])
def pool (es : List (Nat × CpInfo)) (last : Nat) : Array CpInfo := ⟨poolList es last⟩
def fileOf (pool : Array CpInfo) (this : Nat) (attrs : Array Attribute := #[]) (ms : Array MethodInfo := #[]) (fl : Nat := 33) (sup : Nat := 0) (ifs : Array Nat := #[]) (fds : Array FieldInfo := #[]) : ClassFile where
  minorVersion := 0
  majorVersion := 65
  constantPool := pool
  accessFlags := fl
  thisClass := this
  superClass := sup
  interfaces := ifs
  fields := fds
  methods := ms
  attributes := attrs
def plain (name : String) (sup : Option ClassId) : Class where
  name := name
  kind := .ordinary
  loader := none
  accessFlags := 33
  super := sup
  interfaces := #[]
  cf := none
  fields := #[]
  methods := #[]
  instanceTypes := #[]
  staticTypes := #[]
  resolved := #[]
  callSites := []
  init := .initialized
  statics := none
  mirror := none

def pool0 : Array CpInfo := pool [(5, u "<init>"), (0, u "()V"), (1, .class_ 10), (1, u "java/lang/Object")] 113

def k0m0 : Method := { name := "<init>", desc := "()V", sig := { parameters := [], returnType := none }, accessFlags := 1, code := none }
/-- java/lang/Object -/
def k0 : Class := { plain "java/lang/Object" none with
  accessFlags := 33
  interfaces := #[]
  cf := some (fileOf pool0 8 #[] #[{ accessFlags := 1, nameIndex := 5, descriptorIndex := 6, attributes := #[] }] 33 0 #[] #[])
  fields := #[]
  methods := #[k0m0]
  instanceTypes := #[]
  staticTypes := #[]
  resolved := Array.replicate 124 none
  statics := none }

def pool1 : Array CpInfo := pool [(2, .class_ 4), (1, u "java/lang/Object"), (0, u "<init>"), (0, u "()V"), (2, .long 18446744071562067968), (1, .long 58), (1, .long 59), (1, .long 65), (1, .long 91), (1, .long 95), (1, .long 96), (1, .long 97), (1, .long 123), (1, .long 192), (1, .long 215), (1, .long 216), (1, .long 247), (1, .long 248), (1, .long 768), (1, .long 880), (1, .long 894), (1, .long 895), (1, .long 8192), (1, .long 8204), (1, .long 8206), (1, .long 8304), (1, .long 8592), (1, .long 11264), (1, .long 12272), (1, .long 12289), (1, .long 55296), (1, .long 63744), (1, .long 64976), (1, .long 65008), (1, .long 65534), (1, .long 65536), (1, .long 983040), (1, .long 2147483648), (1, .integer 2147483647), (2, .long 9223372036854775807), (1, .methodref 83 84), (0, .class_ 85), (0, .nameAndType 86 87), (0, u "com/example/valbonne/valbonne/schema/XmlChars"), (0, u "isNameStartChar"), (0, u "(I)Z"), (0, .class_ 89), (0, u "com/example/valbonne/valbonne/schema/XmlCharsIsNameStartCharPinLaw"), (2, u "law"), (0, u "(IJ)Z")] 5

def k1m0 : Method := { name := "<init>", desc := "()V", sig := { parameters := [], returnType := none }, accessFlags := 2, code := none }
def k1c1 : Code := { maxStack := 6, maxLocals := 17, code := code, exceptionTable := #[], attributes := #[] }
def k1m1 : Method := { name := "law", desc := "(IJ)Z", sig := { parameters := [.int, .long], returnType := some .boolean }, accessFlags := 9, code := some k1c1 }
/-- com/example/valbonne/valbonne/schema/XmlCharsIsNameStartCharPinLaw -/
def k1 : Class := { plain "com/example/valbonne/valbonne/schema/XmlCharsIsNameStartCharPinLaw" (some 0) with
  accessFlags := 49
  interfaces := #[]
  cf := some (fileOf pool1 88 #[] #[{ accessFlags := 2, nameIndex := 5, descriptorIndex := 6, attributes := #[] }, { accessFlags := 9, nameIndex := 92, descriptorIndex := 93, attributes := #[] }] 49 2 #[] #[])
  fields := #[]
  methods := #[k1m0, k1m1]
  instanceTypes := #[]
  staticTypes := #[]
  resolved := Array.replicate 99 none
  statics := none }

def pool2 : Array CpInfo := pool [(2, .class_ 4), (1, u "java/lang/Object"), (0, u "<init>"), (0, u "()V"), (0, .integer 55295), (1, .integer 65533), (0, .integer 65536), (12, .class_ 25), (1, u "com/example/valbonne/valbonne/schema/XmlChars"), (1, u "(I)Z"), (11, u "isNameStartChar"), (7, .integer 63744), (0, .integer 64975), (0, .integer 65008), (0, .integer 983039)] 11

def k2m0 : Method := { name := "<init>", desc := "()V", sig := { parameters := [], returnType := none }, accessFlags := 2, code := none }
def k2c1 : Code := { maxStack := 2, maxLocals := 1, code := prog_137_method_8_code, exceptionTable := #[], attributes := #[] }
def k2m1 : Method := { name := "isNameStartChar", desc := "(I)Z", sig := { parameters := [.int], returnType := some .boolean }, accessFlags := 9, code := some k2c1 }
/-- com/example/valbonne/valbonne/schema/XmlChars -/
def k2 : Class := { plain "com/example/valbonne/valbonne/schema/XmlChars" (some 0) with
  accessFlags := 33
  interfaces := #[]
  cf := some (fileOf pool2 23 #[] #[{ accessFlags := 2, nameIndex := 5, descriptorIndex := 6, attributes := #[] }, { accessFlags := 9, nameIndex := 39, descriptorIndex := 27, attributes := #[] }] 33 2 #[] #[])
  fields := #[]
  methods := #[k2m0, k2m1]
  instanceTypes := #[]
  staticTypes := #[]
  resolved := Array.replicate 62 none
  statics := none }

def pool3 : Array CpInfo := pool [(1, u "java/lang/Cloneable"), (0, .class_ 1), (0, u "java/lang/Object"), (0, .class_ 3)] 3

/-- java/lang/Cloneable -/
def k3 : Class := { plain "java/lang/Cloneable" (some 0) with
  accessFlags := 1537
  interfaces := #[]
  cf := some (fileOf pool3 2 #[] #[] 1537 4 #[] #[])
  fields := #[]
  methods := #[]
  instanceTypes := #[]
  staticTypes := #[]
  resolved := Array.replicate 8 none
  statics := none }

def pool4 : Array CpInfo := pool [(1, u "java/io/Serializable"), (0, .class_ 1), (0, u "java/lang/Object"), (0, .class_ 3)] 3

/-- java/io/Serializable -/
def k4 : Class := { plain "java/io/Serializable" (some 0) with
  accessFlags := 1537
  interfaces := #[]
  cf := some (fileOf pool4 2 #[] #[] 1537 4 #[] #[])
  fields := #[]
  methods := #[]
  instanceTypes := #[]
  staticTypes := #[]
  resolved := Array.replicate 8 none
  statics := none }

/-- the primitive byte -/
def k5 : Class := { plain "byte" none with kind := .primitive 'B', accessFlags := 0x411 }
/-- [B -/
def k6 : Class := { plain "[B" (some 0) with kind := .array 5 .byte, interfaces := #[3, 4], accessFlags := 1041 }

/-- the primitive int -/
def k7 : Class := { plain "int" none with kind := .primitive 'I', accessFlags := 0x411 }
/-- [I -/
def k8 : Class := { plain "[I" (some 0) with kind := .array 7 .int, interfaces := #[3, 4], accessFlags := 1041 }

/-- the primitive long -/
def k9 : Class := { plain "long" none with kind := .primitive 'J', accessFlags := 0x411 }
/-- [J -/
def k10 : Class := { plain "[J" (some 0) with kind := .array 9 .long, interfaces := #[3, 4], accessFlags := 1041 }

def heap : Heap := #[]
def classes : Array Class := #[k0, k1, k2, k3, k4, k5, k6, k7, k8, k9, k10]
def interned : List (Array UInt16 × Addr) := []
def slotsUsed : Nat := 0
def theMethod : MethodId := ⟨1, 1⟩
def args0 : Array Value := #[.int 5, .long 5]
def aboutOver (below : List Frame) : State where
  vm := { classes := classes, interned := interned.toArray }
  heap := heap
  slotsUsed := slotsUsed
  threads := #[{ frames := .invoking theMethod args0 :: below }]
def below0 : List Frame := [.native { method := ⟨0, 0⟩, args := #[] }]
def about1 : State := aboutOver below0
def p0 : Program := .bare "" "" ""
def e0 : Env := launch0.env 0 0 0
theorem w_frames : about1.frames = Frame.invoking theMethod args0 :: below0 := rfl
set_option maxRecDepth 65536 in
theorem w_args : argsFit about1.vm theMethod args0 = true := by decide +kernel
set_option maxRecDepth 65536 in
theorem w_heap : heapFits about1 = true := by decide +kernel
set_option maxRecDepth 65536 in
theorem w_runnable : about1.curStatus? = some .runnable := by decide +kernel
set_option maxRecDepth 65536 in
theorem w_alone : about1.alone = true := by decide +kernel
set_option maxRecDepth 65536 in
theorem w_named : about1.methodNamed? x = some theMethod := by decide +kernel
set_option maxRecDepth 65536 in
theorem w_hears : about1.hears theMethod below0 = true := by decide +kernel
set_option maxRecDepth 65536 in
theorem w_ripe : about1.ripe theMethod args0 below0 = true := by decide +kernel
theorem w_running : about1.status = .running := rfl
set_option maxRecDepth 65536 in
theorem w_room : about1.hasRoom e0.platform room_1 = true :=
  launch0.hasRoom_least _ room_1 (by decide +kernel) (by decide +kernel) (by decide +kernel) (by decide +kernel) (by decide +kernel) (by decide +kernel)
theorem allAtoms_all (ts : List Jvm.Cond) (a : Array Jvm.Value) (st : Jvm.State) : (allAtoms ts).before a st = ts.all (fun c => c.before a st) := by
  induction ts with
  | nil => rfl
  | cons c t ih =>
    show (Jvm.Cond.and c (allAtoms t)).before a st = _
    rw [Jvm.Cond.before_and, ih, List.all_cons]
def words1 : List Jvm.Cond := Jvm.Cond.code x code maxLocals ret :: tables_1
/-- a 'code' word, met by the world's own term for the bytes: nothing is compared byte by byte -/
theorem code_word {y : MethodName} {bytes : ByteArray} {mx : Nat} {rt : Option FieldType} {a : Array Value} {s : State} {m : MethodId} {meth : Method} {c : Code} (h1 : s.methodNamed? y = some m) (h2 : s.vm.method? m = some meth) (h3 : meth.code = some c) (h4 : c.code = bytes)
    (h5 : (c.maxLocals == mx && c.exceptionTable.isEmpty && decide (c.maxStack ≤ mostOperands) && decide (meth.sig.returnType = rt) && !meth.locks && decide (parseMethodDescriptor y.desc = some meth.sig)) = true) : (Jvm.Cond.code y bytes mx rt).before a s = true := by
  simp only [Bool.and_eq_true, beq_iff_eq, Bool.not_eq_true', decide_eq_true_eq] at h5
  obtain ⟨⟨⟨⟨⟨g1, g2⟩, g3⟩, g4⟩, g5⟩, g6⟩ := h5
  simp [Cond.before, Cond.holds, Cond.value, h1, h2, h3, h4, g1, g2, g3, g4, g5, g6]
def isCode : Jvm.Cond → Bool
  | .code _ _ _ _ => true
  | _ => false
theorem all_split {L : List Jvm.Cond} {P : Jvm.Cond → Bool} (h1 : L.all (fun c => isCode c || P c) = true) (h2 : ∀ c ∈ L.filter isCode, P c = true) : L.all P = true := by
  refine List.all_eq_true.mpr fun c hc => ?_
  have h := List.all_eq_true.mp h1 c hc
  rcases Bool.eq_false_or_eq_true (isCode c) with hi | hi
  · exact h2 c (List.mem_filter.mpr ⟨hc, hi⟩)
  · simpa [hi] using h
set_option maxRecDepth 65536 in
theorem w_c0 : (Jvm.Cond.code x code maxLocals ret).before args0 about1 = true := code_word (m := ⟨1, 1⟩) (meth := k1m1) (c := k1c1) (by decide +kernel) rfl rfl rfl (by decide +kernel)
set_option maxRecDepth 65536 in
theorem w_c1 : (Jvm.Cond.code ({ cls := "com/example/valbonne/valbonne/schema/XmlChars", name := "isNameStartChar", desc := "(I)Z" } : Jvm.MethodName) prog_137_method_8_code (1 : Nat) (Option.some Jvm.ClassFile.FieldType.boolean)).before args0 about1 = true := code_word (m := ⟨2, 1⟩) (meth := k2m1) (c := k2c1) (by decide +kernel) rfl rfl rfl (by decide +kernel)
def codes1 : List Jvm.Cond := [Jvm.Cond.code x code maxLocals ret, Jvm.Cond.code ({ cls := "com/example/valbonne/valbonne/schema/XmlChars", name := "isNameStartChar", desc := "(I)Z" } : Jvm.MethodName) prog_137_method_8_code (1 : Nat) (Option.some Jvm.ClassFile.FieldType.boolean)]
set_option maxRecDepth 65536 in
theorem codes_eq : words1.filter isCode = codes1 := rfl
theorem w_codes : ∀ c ∈ words1.filter isCode, c.before args0 about1 = true := by
  rw [codes_eq]
  intro c hc
  simp only [codes1, List.mem_cons, List.not_mem_nil, or_false] at hc
  rcases hc with rfl | rfl
  · exact w_c0
  · exact w_c1
set_option maxRecDepth 65536 in
theorem w_t1 : (words1.take 24).all (fun c => isCode c || c.before args0 about1) = true := by decide +kernel
set_option maxRecDepth 65536 in
theorem w_t2 : ((words1.drop 24).take 24).all (fun c => isCode c || c.before args0 about1) = true := by decide +kernel
set_option maxRecDepth 65536 in
theorem w_t3 : ((words1.drop 24).drop 24).all (fun c => isCode c || c.before args0 about1) = true := by decide +kernel
theorem w_tables : (allAtoms (Jvm.Cond.code x code maxLocals ret :: tables_1)).before args0 about1 = true := by
  rw [allAtoms_all]
  show words1.all (fun c => c.before args0 about1) = true
  refine all_split ?_ w_codes
  rw [← List.take_append_drop 24 words1, List.all_append, w_t1, ← List.take_append_drop 24 (words1.drop 24), List.all_append, w_t2, w_t3]
  rfl
set_option maxRecDepth 65536 in
theorem w_case : (Jvm.Cond.and given_1 narrow_1).before args0 about1 = true := by decide +kernel
theorem w_applies : (headSpec (Jvm.Cond.code x code maxLocals ret :: tables_1) room_1).applies x e0.platform about1 = true :=
  (Spec.applies_iff w_frames).mpr ⟨w_running, w_runnable, w_alone, w_named, w_hears, w_ripe, w_room, w_tables⟩
theorem atStart : AtStart classFile x code maxLocals ret World_1 tables_1 room_1 Calls_1 rest_1 Pre_1 launch0 p0 e0 about1 theMethod args0 below0 :=
  ⟨lists_1, trivial, launch0.admits_env _ _ _, launch0.least_env, fairChoices_fair.cas, fairChoices_fair.clock, w_frames, w_args, w_heap, w_applies, trivial, trivial, w_case⟩
end start1
theorem witness_1 : WitnessClaimed_1 := ⟨start1.p0, start1.e0, start1.about1, start1.theMethod, start1.args0, start1.below0, start1.atStart⟩
end Jvm.Pilot.@@N@@
