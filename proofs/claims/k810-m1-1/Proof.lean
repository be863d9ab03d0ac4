import JvmDerived
import JvmDerived.Pilot.@@N@@Statement
import JvmDerived.Pilot.@@N@@Code
set_option linter.unusedVariables false
set_option linter.unusedSimpArgs false
namespace Jvm.Pilot.@@N@@
open Jvm Jvm.ClassFile Sem Op Lib Jvm.Free Jvm.Stand Jvm.LawKit Jvm.RoadKit Bundle Jvm.Pilot.@@N@@.Jvm.D
section Own
variable {p : Program} {l : Launch} {e : Env} {R : Room} {s : State} {m : MethodId} {args : Array Value} {below : List Frame} {meth : Method} {c : Code} {T T' : State} {locs : List Loc} {cells slots : Nat} {QQ : Option Value → Heap → List Loc → Prop} {kc ks : Nat} {f f' : JFrame}
/-- from here the run comes to the method's return, with what QQ says -/
def own_Goes (p : Program) (e : Env) (below : List Frame) (s : State) (QQ : Option Value → Heap → List Loc → Prop) (kc ks : Nat) (T : State) (f : JFrame) : Prop :=
  ∃ s₂ o, Steps p.tables e below (T.setTop f) s₂ ∧ s₂.status = .running ∧ Ended s₂ below o ∧ ∃ v L, o = .returned v ∧ QQ v s₂.heap L ∧ FrameEnd s o s₂ L kc ks
theorem own_step (st : ∀ target, Steps p.tables e below (T'.setTop f') target → Steps p.tables e below (T.setTop f) target) (h : own_Goes p e below s QQ kc ks T' f') : own_Goes p e below s QQ kc ks T f := by
  obtain ⟨s₂, o, h1, r⟩ := h
  exact ⟨s₂, o, st _ h1, r⟩
theorem own_jump (st : Steps p.tables e below (T.setTop f) (T'.setTop f')) (h : own_Goes p e below s QQ kc ks T' f') : own_Goes p e below s QQ kc ks T f := by
  obtain ⟨s₂, o, h1, r⟩ := h
  exact ⟨s₂, o, st.trans h1, r⟩
theorem own_out {v : Option Value} (X : Stand p l e R s m args below meth c T locs cells slots) (hlk : meth.locks = false) (hv : meth.sig.returnType = none → v = none)
    (st : ∀ fs, (∀ (f : JFrame) (acts : List Action), f.method = m → f.locked = none → f.entered = [] → (doReturn e (T.setTop f) acts v).1 = T.setFrames fs) → Steps p.tables e below (T.setTop f) (T.setFrames fs)) (hc : cells ≤ kc) (hs : slots ≤ ks) (hq : QQ v T.heap locs) : own_Goes p e below s QQ kc ks T f := by
  obtain ⟨fs, hr, hrun, hended, hW, hsame⟩ := X.leave (v := v) hv hlk
  exact ⟨_, _, st fs hr, hrun, hended, v, locs, rfl, hq, ⟨_, rfl⟩, hW, hsame.mono hc hs⟩
theorem own_staKeep {Z : State} {h h' : Heap} {C n d : String} {v : Value} {ws : List Addr} (F : Sta Z h C n d v) (K : Keep h h' ws) (q : ∀ x ∈ ws, ∃ cell : Cell, h[x]? = some cell ∧ cell.vm.isStatics = false) : Sta Z h' C n d v := by
  obtain ⟨cf, i, k, f, st, cell, h1, h2, h3, h4, h5, h6, h7⟩ := F
  refine ⟨cf, i, k, f, st, cell, h1, h2, h3, h4, K.2.1 st cell h5 (fun z => ?_), h6, h7⟩
  obtain ⟨c', g1, g2⟩ := q st z
  rw [h5] at g1
  cases g1
  rw [h6] at g2
  cases g2
theorem own_exaNS {Z : State} {h : Heap} {a : Addr} {C : String} (F : Exa Z h a C) : ∃ cell : Cell, h[a]? = some cell ∧ cell.vm.isStatics = false := by
  obtain ⟨cell, k, h1, -, -, h4, -⟩ := F
  exact ⟨cell, h1, h4⟩
end Own
theorem d2_0 : decode jdk_30_method_1_code 0 = .ok (.aload_n 0, 1) := by decide +kernel
theorem d2_1 : decode jdk_30_method_1_code 1 = .ok (.invokespecial 1, 3) := by decide +kernel
theorem d2_4 : decode jdk_30_method_1_code 4 = .ok (.return_, 1) := by decide +kernel
theorem pn_0 : plainName "java/lang/Record" = true := by first | (simp [plainName, overriddenIn]; done) | decide +kernel
theorem ef_2 (m : MethodId) (x0 : Addr) : entryFrame m #[(.ref x0)] 1 = mkF m 0 #[.val (.ref x0)] [] := by first | (simp [entryFrame, mkF, argsToLocals, Value.category]; done) | rfl
def Q2 (Z : State) (a1 : Addr) (h0 : Heap) (n0 : Nat) (v : Option Value) (h : Heap) (L : List Loc) : Prop := v = none ∧ L = [] ∧ h = h0
abbrev R2 : Room := { frames := 1, cells := 0, slots := 0, locals := 12 }
set_option maxRecDepth 65536 in
set_option maxHeartbeats 40000000 in
theorem rm2 (l : Launch) (Z : State) (a0 : Array Value) (hw : ∀ d ∈ tables_1, d.before a0 Z = true) (ws : List Jvm.Cond) (a1 : Addr) (h0 : Heap) (n0 : Nat) (Z0 : n0 ≤ h0.size)  :
    MetFree l (⟨"java/lang/Record", "<init>", "()V"⟩ : MethodName) (head1 (Jvm.Cond.code (⟨"java/lang/Record", "<init>", "()V"⟩ : MethodName) jdk_30_method_1_code 1 none :: ws) R2) (fun a U => a = #[(.ref a1)] ∧ Z.Warmed39 U.vm ∧ U.heap = h0) (fun _ _ _ _ _ => True) (fun _ U o U' => ∃ v L, o = .returned v ∧ Q2 Z a1 h0 n0 v U'.heap L ∧ FrameEnd U o U' L R2.cells R2.slots) := by
  refine MetFree.of_bodySF (plainFor_of_name pn_0) hisR ?_
  intro p e s m args below meth c s₁ Bd hml0 hP hK
  obtain ⟨rfl, hZ, hh⟩ := hP
  have hx := Bd.exec
  have hby := Bd.bytes
  have hlk : meth.locks = false := BodyLoose.notSynchronized Bd
  have hml : c.maxLocals = 1 := hml0
  have hown : s.vm.findClass "java/lang/Record" = some m.cls := findClass_of_methodNamed Bd.named
  have hnm := (name_of_methodNamed Bd.named Bd.method).1
  have X0 : Stand p l e R2 s m #[(.ref a1)] below meth c s₁ [] 0 0 := Stand.of_body Bd
  have e0 : s₁.heap = h0 := by rw [← hh, Bd.state]; rfl
  have N0 := Fr.nil n0
  show own_Goes p e below s (Q2 Z a1 h0 n0) R2.cells R2.slots s₁ (entryFrame m #[(.ref a1)] 1)
  rw [ef_2 m a1]
  refine own_step (f' := (mkF m 1 #[.val (.ref a1)] [(.ref a1)])) (fun _ k => XS.aloadN X0.here hx rfl (hb hby d2_0) rfl rfl k) ?_
  obtain ⟨T1, X1, e1, st1⟩ := initO X0 hx hZ hown (hw _ (List.mem_of_getElem? (i := 12) rfl)) (hw _ (List.mem_of_getElem? (i := 13) rfl)) (hw _ (List.mem_of_getElem? (i := 14) rfl)) e0 (g := (mkF m 1 #[.val (.ref a1)] [(.ref a1)])) rfl (by rw [hml]; rfl) rfl (hb hby d2_1) (by decide) (W := 0) (by show 2 * 0 + _ ≤ _; exact Nat.le_of_eq rfl) (by decide)
  refine own_step (f' := (mkF m 4 #[.val (.ref a1)] [])) st1 ?_
  refine own_out (v := none) X1 hlk (fun _ => rfl) (fun fs hr => X1.returnOut hx Bd.returns (hb hby d2_4) hr) (by decide) (by decide) ?_
  rw [e1]
  exact ⟨rfl, rfl, rfl⟩
def own_lo (x y : Int32) : Int32 := if y < x then y else x
def own_hi (x y : Int32) : Int32 := if y < x then x else y
theorem pd_0 : parseMethodDescriptor "()V" = some ⟨[], none⟩ := by decide +kernel
theorem d1_0 : decode prog_59_method_1_code 0 = .ok (.aload_n 0, 1) := by decide +kernel
theorem d1_1 : decode prog_59_method_1_code 1 = .ok (.invokespecial 1, 3) := by decide +kernel
theorem d1_4 : decode prog_59_method_1_code 4 = .ok (.iload_n 1, 1) := by decide +kernel
theorem d1_5 : decode prog_59_method_1_code 5 = .ok (.ifCond .lt 19, 3) := by decide +kernel
theorem d1_8 : decode prog_59_method_1_code 8 = .ok (.iload_n 1, 1) := by decide +kernel
theorem d1_9 : decode prog_59_method_1_code 9 = .ok (.bipush 6, 2) := by decide +kernel
theorem d1_11 : decode prog_59_method_1_code 11 = .ok (.if_icmp .gt 13, 3) := by decide +kernel
theorem d1_14 : decode prog_59_method_1_code 14 = .ok (.iload_n 2, 1) := by decide +kernel
theorem d1_15 : decode prog_59_method_1_code 15 = .ok (.ifCond .lt 9, 3) := by decide +kernel
theorem d1_18 : decode prog_59_method_1_code 18 = .ok (.iload_n 2, 1) := by decide +kernel
theorem d1_19 : decode prog_59_method_1_code 19 = .ok (.bipush 6, 2) := by decide +kernel
theorem d1_21 : decode prog_59_method_1_code 21 = .ok (.if_icmp .le 18, 3) := by decide +kernel
theorem d1_39 : decode prog_59_method_1_code 39 = .ok (.iload_n 1, 1) := by decide +kernel
theorem d1_40 : decode prog_59_method_1_code 40 = .ok (.iload_n 2, 1) := by decide +kernel
theorem d1_41 : decode prog_59_method_1_code 41 = .ok (.if_icmp .le 9, 3) := by decide +kernel
theorem d1_44 : decode prog_59_method_1_code 44 = .ok (.iload_n 1, 1) := by decide +kernel
theorem d1_45 : decode prog_59_method_1_code 45 = .ok (.istore_n 3, 1) := by decide +kernel
theorem d1_46 : decode prog_59_method_1_code 46 = .ok (.iload_n 2, 1) := by decide +kernel
theorem d1_47 : decode prog_59_method_1_code 47 = .ok (.istore_n 1, 1) := by decide +kernel
theorem d1_48 : decode prog_59_method_1_code 48 = .ok (.iload_n 3, 1) := by decide +kernel
theorem d1_49 : decode prog_59_method_1_code 49 = .ok (.istore_n 2, 1) := by decide +kernel
theorem d1_50 : decode prog_59_method_1_code 50 = .ok (.aload_n 0, 1) := by decide +kernel
theorem d1_51 : decode prog_59_method_1_code 51 = .ok (.iload_n 1, 1) := by decide +kernel
theorem d1_52 : decode prog_59_method_1_code 52 = .ok (.putfield 18, 3) := by decide +kernel
theorem d1_55 : decode prog_59_method_1_code 55 = .ok (.aload_n 0, 1) := by decide +kernel
theorem d1_56 : decode prog_59_method_1_code 56 = .ok (.iload_n 2, 1) := by decide +kernel
theorem d1_57 : decode prog_59_method_1_code 57 = .ok (.putfield 22, 3) := by decide +kernel
theorem d1_60 : decode prog_59_method_1_code 60 = .ok (.return_, 1) := by decide +kernel
theorem pn_1 : plainName "com/example/kostyashki/kostyashki/tiles/Tile" = true := by first | (simp [plainName, overriddenIn]; done) | decide +kernel
theorem ef_1 (m : MethodId) (x0 : Addr) (x1 : Int32) (x2 : Int32) : entryFrame m #[(.ref x0), (.int x1), (.int x2)] 4 = mkF m 0 #[.val (.ref x0), .val (.int x1), .val (.int x2), .unset] [] := by first | (simp [entryFrame, mkF, argsToLocals, Value.category]; done) | rfl
def Q1 (Z : State) (a1 : Addr) (p2 : Int32) (p3 : Int32) (u1 : Value) (u2 : Value) (h0 : Heap) (n0 : Nat) (v : Option Value) (h : Heap) (L : List Loc) : Prop := v = none ∧ Fr n0 L ∧ Keep h0 h [a1] ∧ Exa Z h a1 "com/example/kostyashki/kostyashki/tiles/Tile" ∧ Fld Z h a1 "com/example/kostyashki/kostyashki/tiles/Tile" "low" "I" (.int (own_lo p2 p3)) ∧ Fld Z h a1 "com/example/kostyashki/kostyashki/tiles/Tile" "high" "I" (.int (own_hi p2 p3))
abbrev R1 : Room := { frames := 2, cells := 0, slots := 0, locals := 24 }
set_option maxRecDepth 65536 in
set_option maxHeartbeats 40000000 in
theorem rm1 (l : Launch) (Z : State) (a0 : Array Value) (hw : ∀ d ∈ tables_1, d.before a0 Z = true) (ws : List Jvm.Cond) (a1 : Addr) (p2 : Int32) (p3 : Int32) (u1 : Value) (u2 : Value) (h0 : Heap) (n0 : Nat) (Z0 : n0 ≤ h0.size) (E_a1 : Exa Z h0 a1 "com/example/kostyashki/kostyashki/tiles/Tile") (F_low_a1 : Fld Z h0 a1 "com/example/kostyashki/kostyashki/tiles/Tile" "low" "I" u1) (F_high_a1 : Fld Z h0 a1 "com/example/kostyashki/kostyashki/tiles/Tile" "high" "I" u2) (g_a1 : n0 ≤ a1) (hp1 : ¬ (p2 < (0 : Int32))) (hp2 : ¬ ((6 : Int32) < p2)) (hp3 : ¬ (p3 < (0 : Int32))) (hp4 : ¬ ((6 : Int32) < p3)) :
    MetFree l (⟨"com/example/kostyashki/kostyashki/tiles/Tile", "<init>", "(II)V"⟩ : MethodName) (head1 (Jvm.Cond.code (⟨"com/example/kostyashki/kostyashki/tiles/Tile", "<init>", "(II)V"⟩ : MethodName) prog_59_method_1_code 4 none :: ws) R1) (fun a U => a = #[(.ref a1), (.int p2), (.int p3)] ∧ Z.Warmed39 U.vm ∧ U.heap = h0) (fun _ _ _ _ _ => True) (fun _ U o U' => ∃ v L, o = .returned v ∧ Q1 Z a1 p2 p3 u1 u2 h0 n0 v U'.heap L ∧ FrameEnd U o U' L R1.cells R1.slots) := by
  refine MetFree.of_bodySF (plainFor_of_name pn_1) hisR ?_
  intro p e s m args below meth c s₁ Bd hml0 hP hK
  obtain ⟨rfl, hZ, hh⟩ := hP
  have hx := Bd.exec
  have hby := Bd.bytes
  have hlk : meth.locks = false := BodyLoose.notSynchronized Bd
  have hml : c.maxLocals = 4 := hml0
  have hown : s.vm.findClass "com/example/kostyashki/kostyashki/tiles/Tile" = some m.cls := findClass_of_methodNamed Bd.named
  have hnm := (name_of_methodNamed Bd.named Bd.method).1
  have X0 : Stand p l e R1 s m #[(.ref a1), (.int p2), (.int p3)] below meth c s₁ [] 0 0 := Stand.of_body Bd
  have e0 : s₁.heap = h0 := by rw [← hh, Bd.state]; rfl
  have N0 := Fr.nil n0
  show own_Goes p e below s (Q1 Z a1 p2 p3 u1 u2 h0 n0) R1.cells R1.slots s₁ (entryFrame m #[(.ref a1), (.int p2), (.int p3)] 4)
  rw [ef_1 m a1 p2 p3]
  refine own_step (f' := (mkF m 1 #[.val (.ref a1), .val (.int p2), .val (.int p3), .unset] [(.ref a1)])) (fun _ k => XS.aloadN X0.here hx rfl (hb hby d1_0) rfl rfl k) ?_
  have Zq1 : n0 ≤ h0.size := Z0
  obtain ⟨_, _, ⟨T1, L1, k1, n1⟩, -, X1, ⟨Lc1, hQ1, l1, y1, z1⟩, st1⟩ := X0.specialBack hx (y := (⟨"java/lang/Record", "<init>", "()V"⟩ : MethodName)) rfl hown (mvT hZ (hw _ (List.mem_of_getElem? (i := 7) rfl))) (mvT hZ (hw _ (List.mem_of_getElem? (i := 8) rfl))) (mvT hZ (hw _ (List.mem_of_getElem? (i := 11) rfl))) (by decide) (backOf (W := 0) (rm2 l Z a0 hw [] a1 h0 n0 Zq1 ) hZ (hw _ (List.mem_of_getElem? (i := 11) rfl)) (hw _ (List.mem_of_getElem? (i := 10) rfl)) (by decide) (by decide)) (g := (mkF m 1 #[.val (.ref a1), .val (.int p2), .val (.int p3), .unset] [(.ref a1)])) rfl (by rw [hml]; rfl) (Steps.refl _) (a := a1) (argsL := []) (rest := []) (lenOf pd_0 rfl) rfl (by show 2 * 0 + _ ≤ _; exact Nat.le_of_eq rfl) (hb hby d1_1) (fun _ _ => ⟨rfl, e0, (by decide : 0 + 0 ≤ _), (by decide : 0 + 0 ≤ _)⟩)
  dsimp only [Pt.U, Pt.locs, Pt.cells, Pt.slots] at X1 l1 y1 z1 st1 hQ1
  subst l1 y1 z1
  obtain ⟨rfl, rfl, e1⟩ := hQ1
  try rw [List.append_nil] at X1
  refine own_jump (f' := (mkF m 4 #[.val (.ref a1), .val (.int p2), .val (.int p3), .unset] [])) st1 ?_
  refine own_step (f' := (mkF m 5 #[.val (.ref a1), .val (.int p2), .val (.int p3), .unset] [(.int p2)])) (fun _ k => XS.iloadN X1.here hx rfl (hb hby d1_4) rfl k) ?_
  have hf5_2 : ¬ (p2 < (0 : Int32)) := hp1
  refine own_step (f' := (mkF m 8 #[.val (.ref a1), .val (.int p2), .val (.int p3), .unset] [])) (fun _ k => XS.ifNo X1.here hx rfl (hb hby d1_5) rfl ((if0 _ _).trans (flt hf5_2).1) k) ?_
  refine own_step (f' := (mkF m 9 #[.val (.ref a1), .val (.int p2), .val (.int p3), .unset] [(.int p2)])) (fun _ k => XS.iloadN X1.here hx rfl (hb hby d1_8) rfl k) ?_
  refine own_step (f' := (mkF m 11 #[.val (.ref a1), .val (.int p2), .val (.int p3), .unset] [(.int (6 : Int32)), (.int p2)])) (fun _ k => XS.bipush X1.here hx rfl (hb hby d1_9) k) ?_
  have hf11_3 : ¬ ((6 : Int32) < p2) := hp2
  refine own_step (f' := (mkF m 14 #[.val (.ref a1), .val (.int p2), .val (.int p3), .unset] [])) (fun _ k => XS.icmpNo X1.here hx rfl (hb hby d1_11) rfl (flt hf11_3).2.2.1 k) ?_
  refine own_step (f' := (mkF m 15 #[.val (.ref a1), .val (.int p2), .val (.int p3), .unset] [(.int p3)])) (fun _ k => XS.iloadN X1.here hx rfl (hb hby d1_14) rfl k) ?_
  have hf15_4 : ¬ (p3 < (0 : Int32)) := hp3
  refine own_step (f' := (mkF m 18 #[.val (.ref a1), .val (.int p2), .val (.int p3), .unset] [])) (fun _ k => XS.ifNo X1.here hx rfl (hb hby d1_15) rfl ((if0 _ _).trans (flt hf15_4).1) k) ?_
  refine own_step (f' := (mkF m 19 #[.val (.ref a1), .val (.int p2), .val (.int p3), .unset] [(.int p3)])) (fun _ k => XS.iloadN X1.here hx rfl (hb hby d1_18) rfl k) ?_
  refine own_step (f' := (mkF m 21 #[.val (.ref a1), .val (.int p2), .val (.int p3), .unset] [(.int (6 : Int32)), (.int p3)])) (fun _ k => XS.bipush X1.here hx rfl (hb hby d1_19) k) ?_
  have hf21_5 : ¬ ((6 : Int32) < p3) := hp4
  refine own_step (f' := (mkF m 39 #[.val (.ref a1), .val (.int p2), .val (.int p3), .unset] [])) (fun _ k => XS.icmpYes X1.here hx rfl (pc0 := 21) (pc' := 39) rfl (hb hby d1_21) rfl (flt hf21_5).2.2.2 (by decide) (by decide) k) ?_
  refine own_step (f' := (mkF m 40 #[.val (.ref a1), .val (.int p2), .val (.int p3), .unset] [(.int p2)])) (fun _ k => XS.iloadN X1.here hx rfl (hb hby d1_39) rfl k) ?_
  refine own_step (f' := (mkF m 41 #[.val (.ref a1), .val (.int p2), .val (.int p3), .unset] [(.int p3), (.int p2)])) (fun _ k => XS.iloadN X1.here hx rfl (hb hby d1_40) rfl k) ?_
  have J41_7 : ∀ (T41_7 : State) (v41_7_l1 : Int32) (v41_7_l2 : Int32) (y41_7_l3 : Slot), Stand p l e R1 s m #[(.ref a1), (.int p2), (.int p3)] below meth c T41_7 [] 0 0 → T41_7.heap = h0 → v41_7_l1 = (if p3 < p2 then p3 else p2) → v41_7_l2 = (if p3 < p2 then p2 else p3) → own_Goes p e below s (Q1 Z a1 p2 p3 u1 u2 h0 n0) R1.cells R1.slots T41_7 (mkF m 50 #[.val (.ref a1), .val (.int v41_7_l1), .val (.int v41_7_l2), y41_7_l3] []) := by
    intro T41_7 v41_7_l1 v41_7_l2 y41_7_l3 X41_7 e41_7 hv41_7_0 hv41_7_1
    refine own_step (f' := (mkF m 51 #[.val (.ref a1), .val (.int v41_7_l1), .val (.int v41_7_l2), y41_7_l3] [(.ref a1)])) (fun _ k => XS.aloadN X41_7.here hx rfl (hb hby d1_50) rfl rfl k) ?_
    refine own_step (f' := (mkF m 52 #[.val (.ref a1), .val (.int v41_7_l1), .val (.int v41_7_l2), y41_7_l3] [(.int v41_7_l1), (.ref a1)])) (fun _ k => XS.iloadN X41_7.here hx rfl (hb hby d1_51) rfl k) ?_
    obtain ⟨T8, h8, X8, e8, W8, st8⟩ := putF X41_7 hx hZ hown (host := "") (Or.inl (hw _ (List.mem_of_getElem? (i := 15) rfl))) Via.refl e41_7 F_low_a1 E_a1 (Or.inr ⟨(hw _ (List.mem_of_getElem? (i := 16) rfl)), rfl, hnm⟩) (hw _ (List.mem_of_getElem? (i := 2) rfl)) (ty := .int) (by decide) rfl rfl (g := (mkF m 52 #[.val (.ref a1), .val (.int v41_7_l1), .val (.int v41_7_l2), y41_7_l3] [(.int v41_7_l1), (.ref a1)])) rfl rfl (hb hby d1_52)
    obtain ⟨Lo8, X8, N8⟩ : ∃ K, Stand p l e R1 s m #[(.ref a1), (.int p2), (.int p3)] below meth c T8 K 0 0 ∧ Fr n0 K := ⟨_, X8, (Fr.snoc X8 N0 g_a1)⟩
    refine own_step (f' := (mkF m 55 #[.val (.ref a1), .val (.int v41_7_l1), .val (.int v41_7_l2), y41_7_l3] [])) st8 ?_
    refine own_step (f' := (mkF m 56 #[.val (.ref a1), .val (.int v41_7_l1), .val (.int v41_7_l2), y41_7_l3] [(.ref a1)])) (fun _ k => XS.aloadN X8.here hx rfl (hb hby d1_55) rfl rfl k) ?_
    refine own_step (f' := (mkF m 57 #[.val (.ref a1), .val (.int v41_7_l1), .val (.int v41_7_l2), y41_7_l3] [(.int v41_7_l2), (.ref a1)])) (fun _ k => XS.iloadN X8.here hx rfl (hb hby d1_56) rfl k) ?_
    obtain ⟨T9, h9, X9, e9, W9, st9⟩ := putF X8 hx hZ hown (host := "") (Or.inl (hw _ (List.mem_of_getElem? (i := 17) rfl))) Via.refl e8 (F_high_a1.other W8 (Or.inr (slot_ne (Or.inr (hw _ (List.mem_of_getElem? (i := 18) rfl))) (Or.inr (hw _ (List.mem_of_getElem? (i := 16) rfl))) (by decide) (t := .int) (t' := .int) (by decide) (by decide)))) (E_a1.wr W8) (Or.inr ⟨(hw _ (List.mem_of_getElem? (i := 18) rfl)), rfl, hnm⟩) (hw _ (List.mem_of_getElem? (i := 2) rfl)) (ty := .int) (by decide) rfl rfl (g := (mkF m 57 #[.val (.ref a1), .val (.int v41_7_l1), .val (.int v41_7_l2), y41_7_l3] [(.int v41_7_l2), (.ref a1)])) rfl rfl (hb hby d1_57)
    obtain ⟨Lo9, X9, N9⟩ : ∃ K, Stand p l e R1 s m #[(.ref a1), (.int p2), (.int p3)] below meth c T9 K 0 0 ∧ Fr n0 K := ⟨_, X9, (Fr.snoc X9 N8 g_a1)⟩
    refine own_step (f' := (mkF m 60 #[.val (.ref a1), .val (.int v41_7_l1), .val (.int v41_7_l2), y41_7_l3] [])) st9 ?_
    refine own_out (v := none) X9 hlk (fun _ => rfl) (fun fs hr => X9.returnOut hx Bd.returns (hb hby d1_60) hr) (by decide) (by decide) ?_
    subst hv41_7_0 hv41_7_1
    rw [e9]
    exact ⟨rfl, N9, (((Keep.refl h0 [a1]).wr W8 (Or.inl (List.mem_of_getElem? (i := 0) rfl))).wr W9 (Or.inl (List.mem_of_getElem? (i := 0) rfl))), ((E_a1.wr W8).wr W9), ((F_low_a1.same W8).other W9 (Or.inr (slot_ne (Or.inr (hw _ (List.mem_of_getElem? (i := 16) rfl))) (Or.inr (hw _ (List.mem_of_getElem? (i := 18) rfl))) (by decide) (t := .int) (t' := .int) (by decide) (by decide)))), ((F_high_a1.other W8 (Or.inr (slot_ne (Or.inr (hw _ (List.mem_of_getElem? (i := 18) rfl))) (Or.inr (hw _ (List.mem_of_getElem? (i := 16) rfl))) (by decide) (t := .int) (t' := .int) (by decide) (by decide)))).same W9)⟩
  by_cases hc41_6 : p3 < p2
  · refine own_step (f' := (mkF m 44 #[.val (.ref a1), .val (.int p2), .val (.int p3), .unset] [])) (fun _ k => XS.icmpNo X1.here hx rfl (hb hby d1_41) rfl (tlt hc41_6).2.2.2 k) ?_
    refine own_step (f' := (mkF m 45 #[.val (.ref a1), .val (.int p2), .val (.int p3), .unset] [(.int p2)])) (fun _ k => XS.iloadN X1.here hx rfl (hb hby d1_44) rfl k) ?_
    refine own_step (f' := (mkF m 46 #[.val (.ref a1), .val (.int p2), .val (.int p3), .val (.int p2)] [])) (fun _ k => XS.istoreN X1.here hx rfl (hb hby d1_45) rfl (l' := #[.val (.ref a1), .val (.int p2), .val (.int p3), .val (.int p2)]) rfl k) ?_
    refine own_step (f' := (mkF m 47 #[.val (.ref a1), .val (.int p2), .val (.int p3), .val (.int p2)] [(.int p3)])) (fun _ k => XS.iloadN X1.here hx rfl (hb hby d1_46) rfl k) ?_
    refine own_step (f' := (mkF m 48 #[.val (.ref a1), .val (.int p3), .val (.int p3), .val (.int p2)] [])) (fun _ k => XS.istoreN X1.here hx rfl (hb hby d1_47) rfl (l' := #[.val (.ref a1), .val (.int p3), .val (.int p3), .val (.int p2)]) rfl k) ?_
    refine own_step (f' := (mkF m 49 #[.val (.ref a1), .val (.int p3), .val (.int p3), .val (.int p2)] [(.int p2)])) (fun _ k => XS.iloadN X1.here hx rfl (hb hby d1_48) rfl k) ?_
    refine own_step (f' := (mkF m 50 #[.val (.ref a1), .val (.int p3), .val (.int p2), .val (.int p2)] [])) (fun _ k => XS.istoreN X1.here hx rfl (hb hby d1_49) rfl (l' := #[.val (.ref a1), .val (.int p3), .val (.int p2), .val (.int p2)]) rfl k) ?_
    exact J41_7 _ p3 p2 (.val (.int p2)) X1 e1 (by rw [if_pos hc41_6]) (by rw [if_pos hc41_6])
  · refine own_step (f' := (mkF m 50 #[.val (.ref a1), .val (.int p2), .val (.int p3), .unset] [])) (fun _ k => XS.icmpYes X1.here hx rfl (pc0 := 41) (pc' := 50) rfl (hb hby d1_41) rfl (flt hc41_6).2.2.2 (by decide) (by decide) k) ?_
    exact J41_7 _ p2 p3 (.unset) X1 e1 (by rw [if_neg hc41_6]) (by rw [if_neg hc41_6])
theorem own_m7 (x : Int32) : ¬ ((x &&& (2147483647 : Int32)) % (7 : Int32) < (0 : Int32)) ∧ ¬ ((6 : Int32) < (x &&& (2147483647 : Int32)) % (7 : Int32)) := by
  have h1 := c_mask x 2147483647 31 (by decide) (by decide)
  have h2 := (c_irem (x &&& 2147483647) 7 7 (by decide)).1
  simp only [Int32.lt_iff_toInt_lt]
  have e0 : (0 : Int32).toInt = 0 := by decide
  have e6 : (6 : Int32).toInt = 6 := by decide
  omega
def own_eqI (x y : Int32) : Int32 := if x = y then 1 else 0
theorem d4_0 : decode prog_59_method_4_code 0 = .ok (.aload_n 0, 1) := by decide +kernel
theorem d4_1 : decode prog_59_method_4_code 1 = .ok (.getfield 18, 3) := by decide +kernel
theorem d4_4 : decode prog_59_method_4_code 4 = .ok (.aload_n 0, 1) := by decide +kernel
theorem d4_5 : decode prog_59_method_4_code 5 = .ok (.getfield 22, 3) := by decide +kernel
theorem d4_8 : decode prog_59_method_4_code 8 = .ok (.if_icmp .ne 7, 3) := by decide +kernel
theorem d4_11 : decode prog_59_method_4_code 11 = .ok (.iconst 1, 1) := by decide +kernel
theorem d4_12 : decode prog_59_method_4_code 12 = .ok (.goto 4, 3) := by decide +kernel
theorem d4_15 : decode prog_59_method_4_code 15 = .ok (.iconst 0, 1) := by decide +kernel
theorem d4_16 : decode prog_59_method_4_code 16 = .ok (.ireturn, 1) := by decide +kernel
theorem ef_4 (m : MethodId) (x0 : Addr) : entryFrame m #[(.ref x0)] 1 = mkF m 0 #[.val (.ref x0)] [] := by first | (simp [entryFrame, mkF, argsToLocals, Value.category]; done) | rfl
def Q4 (Z : State) (a1 : Addr) (q2 : Int32) (q3 : Int32) (h0 : Heap) (n0 : Nat) (v : Option Value) (h : Heap) (L : List Loc) : Prop := v = some (.int (own_eqI q2 q3)) ∧ L = [] ∧ h = h0
abbrev R4 : Room := { frames := 0, cells := 0, slots := 0, locals := 0 }
set_option maxRecDepth 65536 in
set_option maxHeartbeats 40000000 in
theorem rm4 (l : Launch) (Z : State) (a0 : Array Value) (hw : ∀ d ∈ tables_1, d.before a0 Z = true) (ws : List Jvm.Cond) (a1 : Addr) (q2 : Int32) (q3 : Int32) (h0 : Heap) (n0 : Nat) (Z0 : n0 ≤ h0.size) (F_low_a1 : Fld Z h0 a1 "com/example/kostyashki/kostyashki/tiles/Tile" "low" "I" (.int q2)) (F_high_a1 : Fld Z h0 a1 "com/example/kostyashki/kostyashki/tiles/Tile" "high" "I" (.int q3)) :
    MetFree l (⟨"com/example/kostyashki/kostyashki/tiles/Tile", "isDouble", "()Z"⟩ : MethodName) (head1 (Jvm.Cond.code (⟨"com/example/kostyashki/kostyashki/tiles/Tile", "isDouble", "()Z"⟩ : MethodName) prog_59_method_4_code 1 (some .boolean) :: ws) R4) (fun a U => a = #[(.ref a1)] ∧ Z.Warmed39 U.vm ∧ U.heap = h0) (fun _ _ _ _ _ => True) (fun _ U o U' => ∃ v L, o = .returned v ∧ Q4 Z a1 q2 q3 h0 n0 v U'.heap L ∧ FrameEnd U o U' L R4.cells R4.slots) := by
  refine MetFree.of_bodySF (plainFor_of_name pn_1) hisR ?_
  intro p e s m args below meth c s₁ Bd hml0 hP hK
  obtain ⟨rfl, hZ, hh⟩ := hP
  have hx := Bd.exec
  have hby := Bd.bytes
  have hlk : meth.locks = false := BodyLoose.notSynchronized Bd
  have hml : c.maxLocals = 1 := hml0
  have hown : s.vm.findClass "com/example/kostyashki/kostyashki/tiles/Tile" = some m.cls := findClass_of_methodNamed Bd.named
  have hnm := (name_of_methodNamed Bd.named Bd.method).1
  have X0 : Stand p l e R4 s m #[(.ref a1)] below meth c s₁ [] 0 0 := Stand.of_body Bd
  have e0 : s₁.heap = h0 := by rw [← hh, Bd.state]; rfl
  have N0 := Fr.nil n0
  show own_Goes p e below s (Q4 Z a1 q2 q3 h0 n0) R4.cells R4.slots s₁ (entryFrame m #[(.ref a1)] 1)
  rw [ef_4 m a1]
  refine own_step (f' := (mkF m 1 #[.val (.ref a1)] [(.ref a1)])) (fun _ k => XS.aloadN X0.here hx rfl (hb hby d4_0) rfl rfl k) ?_
  obtain ⟨T1, X1, e1, st1⟩ := getF X0 hx hZ hown (host := "") (Or.inl (hw _ (List.mem_of_getElem? (i := 15) rfl))) Via.refl e0 F_low_a1 (g := (mkF m 1 #[.val (.ref a1)] [(.ref a1)])) rfl rfl (hb hby d4_1)
  refine own_step (f' := (mkF m 4 #[.val (.ref a1)] [(.int q2)])) st1 ?_
  refine own_step (f' := (mkF m 5 #[.val (.ref a1)] [(.ref a1), (.int q2)])) (fun _ k => XS.aloadN X1.here hx rfl (hb hby d4_4) rfl rfl k) ?_
  obtain ⟨T2, X2, e2, st2⟩ := getF X1 hx hZ hown (host := "") (Or.inl (hw _ (List.mem_of_getElem? (i := 17) rfl))) Via.refl e1 F_high_a1 (g := (mkF m 5 #[.val (.ref a1)] [(.ref a1), (.int q2)])) rfl rfl (hb hby d4_5)
  refine own_step (f' := (mkF m 8 #[.val (.ref a1)] [(.int q3), (.int q2)])) st2 ?_
  by_cases hc8_3 : q2 = q3
  · refine own_step (f' := (mkF m 11 #[.val (.ref a1)] [])) (fun _ k => XS.icmpNo X2.here hx rfl (hb hby d4_8) rfl (teq hc8_3).2 k) ?_
    refine own_step (f' := (mkF m 12 #[.val (.ref a1)] [(.int (1 : Int32))])) (fun _ k => XS.iconst X2.here hx rfl (hb hby d4_11) k) ?_
    refine own_step (f' := (mkF m 16 #[.val (.ref a1)] [(.int (1 : Int32))])) (fun _ k => XS.goto X2.here hx rfl (pc0 := 12) (pc' := 16) rfl (hb hby d4_12) (by decide) (by decide) k) ?_
    refine own_out (v := some (.int (1 : Int32))) X2 hlk (fun h => by rw [Bd.returns] at h; cases h) (fun fs hr => retN X2 hx (t := .boolean) Bd.returns (by simp) (hb hby d4_16) hr) (by decide) (by decide) ?_
    rw [e2]
    exact ⟨(by rw [own_eqI, if_pos hc8_3]), rfl, rfl⟩
  · refine own_step (f' := (mkF m 15 #[.val (.ref a1)] [])) (fun _ k => XS.icmpYes X2.here hx rfl (pc0 := 8) (pc' := 15) rfl (hb hby d4_8) rfl (feq hc8_3).2 (by decide) (by decide) k) ?_
    refine own_step (f' := (mkF m 16 #[.val (.ref a1)] [(.int (0 : Int32))])) (fun _ k => XS.iconst X2.here hx rfl (hb hby d4_15) k) ?_
    refine own_out (v := some (.int (0 : Int32))) X2 hlk (fun h => by rw [Bd.returns] at h; cases h) (fun fs hr => retN X2 hx (t := .boolean) Bd.returns (by simp) (hb hby d4_16) hr) (by decide) (by decide) ?_
    rw [e2]
    exact ⟨(by rw [own_eqI, if_neg hc8_3]), rfl, rfl⟩
theorem own_dbl (a b v : Int32) (hv : v = if a = b then 1 else 0) : own_eqI (own_lo a b) (own_hi a b) = v ∧ own_eqI (own_lo b a) (own_hi b a) = v := by
  subst hv
  have h : ∀ x y : Int32, own_lo x y = own_hi x y ↔ x = y := fun x y => by
    unfold own_lo own_hi
    split
    · exact ⟨fun q => q.symm, fun q => q.symm⟩
    · exact Iff.rfl
  unfold own_eqI
  by_cases q : a = b
  · rw [if_pos q, if_pos ((h a b).mpr q), if_pos ((h b a).mpr q.symm)]; exact ⟨rfl, rfl⟩
  · rw [if_neg q, if_neg fun z => q ((h a b).mp z), if_neg fun z => q ((h b a).mp z).symm]; exact ⟨rfl, rfl⟩
theorem pd_1 : parseMethodDescriptor "(II)V" = some ⟨[.int, .int], none⟩ := by decide +kernel
theorem pd_2 : parseMethodDescriptor "()Z" = some ⟨[], some .boolean⟩ := by decide +kernel
theorem pn_2 : plainName "com/example/kostyashki/kostyashki/tiles/TileIsDoublePinLaw" = true := by first | (simp [plainName, overriddenIn]; done) | decide +kernel
theorem ef_0 (m : MethodId) (x0 : Int32) (x1 : Int32) : entryFrame m #[(.int x0), (.int x1)] maxLocals = mkF m 0 #[.val (.int x0), .val (.int x1), .unset, .unset, .unset, .unset, .unset] [] := by first | (simp [entryFrame, mkF, argsToLocals, Value.category, maxLocals]; done) | rfl
def Q0 (Z : State) (i1 : Int32) (i2 : Int32) (h0 : Heap) (n0 : Nat) (v : Option Value) (h : Heap) (L : List Loc) : Prop := v = some (.int 1) ∧ Fr n0 L
set_option maxRecDepth 65536 in
set_option maxHeartbeats 40000000 in
theorem rm0 (l : Launch) (Z : State) (a0 : Array Value) (hw : ∀ d ∈ tables_1, d.before a0 Z = true) (ws : List Jvm.Cond) (i1 : Int32) (i2 : Int32) (h0 : Heap) (n0 : Nat) (Z0 : n0 ≤ h0.size)  :
    MetFree l x (head1 (Jvm.Cond.code x code maxLocals ret :: ws) room_1) (fun a U => a = #[(.int i1), (.int i2)] ∧ Z.Warmed39 U.vm ∧ U.heap = h0) (fun _ _ _ _ _ => True) (fun _ U o U' => ∃ v L, o = .returned v ∧ Q0 Z i1 i2 h0 n0 v U'.heap L ∧ FrameEnd U o U' L room_1.cells room_1.slots) := by
  refine MetFree.of_bodySF (plainFor_of_name pn_2) hisR ?_
  intro p e s m args below meth c s₁ Bd hml0 hP hK
  obtain ⟨rfl, hZ, hh⟩ := hP
  have hx := Bd.exec
  have hby := Bd.bytes
  have hlk : meth.locks = false := BodyLoose.notSynchronized Bd
  have hml : c.maxLocals = 7 := hml0
  have hown : s.vm.findClass "com/example/kostyashki/kostyashki/tiles/TileIsDoublePinLaw" = some m.cls := findClass_of_methodNamed Bd.named
  have hnm := (name_of_methodNamed Bd.named Bd.method).1
  have X0 : Stand p l e room_1 s m #[(.int i1), (.int i2)] below meth c s₁ [] 0 0 := Stand.of_body Bd
  have e0 : s₁.heap = h0 := by rw [← hh, Bd.state]; rfl
  have N0 := Fr.nil n0
  show own_Goes p e below s (Q0 Z i1 i2 h0 n0) room_1.cells room_1.slots s₁ (entryFrame m #[(.int i1), (.int i2)] maxLocals)
  rw [ef_0 m i1 i2]
  refine own_step (f' := (mkF m 1 #[.val (.int i1), .val (.int i2), .unset, .unset, .unset, .unset, .unset] [(.int i1)])) (fun _ k => XS.iloadN X0.here hx rfl (hb hby at_0) rfl k) ?_
  refine own_step (f' := (mkF m 3 #[.val (.int i1), .val (.int i2), .unset, .unset, .unset, .unset, .unset] [(.int (2147483647 : Int32)), (.int i1)])) (fun _ k => X0.ldcInt hx hown (mvT hZ (hw _ (List.mem_of_getElem? (i := 0) rfl))) (g := (mkF m 1 #[.val (.int i1), .val (.int i2), .unset, .unset, .unset, .unset, .unset] [(.int i1)])) rfl (hb hby at_1) _ k) ?_
  refine own_step (f' := (mkF m 4 #[.val (.int i1), .val (.int i2), .unset, .unset, .unset, .unset, .unset] [(.int (i1 &&& (2147483647 : Int32)))])) (fun _ k => XS.iand X0.here hx rfl (hb hby at_3) rfl k) ?_
  refine own_step (f' := (mkF m 6 #[.val (.int i1), .val (.int i2), .unset, .unset, .unset, .unset, .unset] [(.int (7 : Int32)), (.int (i1 &&& (2147483647 : Int32)))])) (fun _ k => XS.bipush X0.here hx rfl (hb hby at_4) k) ?_
  refine own_step (f' := (mkF m 7 #[.val (.int i1), .val (.int i2), .unset, .unset, .unset, .unset, .unset] [(.int ((i1 &&& (2147483647 : Int32)) % (7 : Int32)))])) (fun _ k => iremM X0 hx rfl (hb hby at_6) rfl (by decide) k) ?_
  refine own_step (f' := (mkF m 8 #[.val (.int i1), .val (.int i2), .val (.int ((i1 &&& (2147483647 : Int32)) % (7 : Int32))), .unset, .unset, .unset, .unset] [])) (fun _ k => XS.istoreN X0.here hx rfl (hb hby at_7) rfl (l' := #[.val (.int i1), .val (.int i2), .val (.int ((i1 &&& (2147483647 : Int32)) % (7 : Int32))), .unset, .unset, .unset, .unset]) rfl k) ?_
  refine own_step (f' := (mkF m 9 #[.val (.int i1), .val (.int i2), .val (.int ((i1 &&& (2147483647 : Int32)) % (7 : Int32))), .unset, .unset, .unset, .unset] [(.int i2)])) (fun _ k => XS.iloadN X0.here hx rfl (hb hby at_8) rfl k) ?_
  refine own_step (f' := (mkF m 11 #[.val (.int i1), .val (.int i2), .val (.int ((i1 &&& (2147483647 : Int32)) % (7 : Int32))), .unset, .unset, .unset, .unset] [(.int (2147483647 : Int32)), (.int i2)])) (fun _ k => X0.ldcInt hx hown (mvT hZ (hw _ (List.mem_of_getElem? (i := 0) rfl))) (g := (mkF m 9 #[.val (.int i1), .val (.int i2), .val (.int ((i1 &&& (2147483647 : Int32)) % (7 : Int32))), .unset, .unset, .unset, .unset] [(.int i2)])) rfl (hb hby at_9) _ k) ?_
  refine own_step (f' := (mkF m 12 #[.val (.int i1), .val (.int i2), .val (.int ((i1 &&& (2147483647 : Int32)) % (7 : Int32))), .unset, .unset, .unset, .unset] [(.int (i2 &&& (2147483647 : Int32)))])) (fun _ k => XS.iand X0.here hx rfl (hb hby at_11) rfl k) ?_
  refine own_step (f' := (mkF m 14 #[.val (.int i1), .val (.int i2), .val (.int ((i1 &&& (2147483647 : Int32)) % (7 : Int32))), .unset, .unset, .unset, .unset] [(.int (7 : Int32)), (.int (i2 &&& (2147483647 : Int32)))])) (fun _ k => XS.bipush X0.here hx rfl (hb hby at_12) k) ?_
  refine own_step (f' := (mkF m 15 #[.val (.int i1), .val (.int i2), .val (.int ((i1 &&& (2147483647 : Int32)) % (7 : Int32))), .unset, .unset, .unset, .unset] [(.int ((i2 &&& (2147483647 : Int32)) % (7 : Int32)))])) (fun _ k => iremM X0 hx rfl (hb hby at_14) rfl (by decide) k) ?_
  refine own_step (f' := (mkF m 16 #[.val (.int i1), .val (.int i2), .val (.int ((i1 &&& (2147483647 : Int32)) % (7 : Int32))), .val (.int ((i2 &&& (2147483647 : Int32)) % (7 : Int32))), .unset, .unset, .unset] [])) (fun _ k => XS.istoreN X0.here hx rfl (hb hby at_15) rfl (l' := #[.val (.int i1), .val (.int i2), .val (.int ((i1 &&& (2147483647 : Int32)) % (7 : Int32))), .val (.int ((i2 &&& (2147483647 : Int32)) % (7 : Int32))), .unset, .unset, .unset]) rfl k) ?_
  refine own_step (f' := (mkF m 17 #[.val (.int i1), .val (.int i2), .val (.int ((i1 &&& (2147483647 : Int32)) % (7 : Int32))), .val (.int ((i2 &&& (2147483647 : Int32)) % (7 : Int32))), .unset, .unset, .unset] [(.int ((i1 &&& (2147483647 : Int32)) % (7 : Int32)))])) (fun _ k => XS.iloadN X0.here hx rfl (hb hby at_16) rfl k) ?_
  refine own_step (f' := (mkF m 18 #[.val (.int i1), .val (.int i2), .val (.int ((i1 &&& (2147483647 : Int32)) % (7 : Int32))), .val (.int ((i2 &&& (2147483647 : Int32)) % (7 : Int32))), .unset, .unset, .unset] [(.int ((i2 &&& (2147483647 : Int32)) % (7 : Int32))), (.int ((i1 &&& (2147483647 : Int32)) % (7 : Int32)))])) (fun _ k => XS.iloadN X0.here hx rfl (hb hby at_17) rfl k) ?_
  have J18_2 : ∀ (T18_2 : State) (v18_2_s0 : Int32), Stand p l e room_1 s m #[(.int i1), (.int i2)] below meth c T18_2 [] 0 0 → T18_2.heap = h0 → v18_2_s0 = (if ((i1 &&& (2147483647 : Int32)) % (7 : Int32)) = ((i2 &&& (2147483647 : Int32)) % (7 : Int32)) then (1 : Int32) else (0 : Int32)) → own_Goes p e below s (Q0 Z i1 i2 h0 n0) room_1.cells room_1.slots T18_2 (mkF m 26 #[.val (.int i1), .val (.int i2), .val (.int ((i1 &&& (2147483647 : Int32)) % (7 : Int32))), .val (.int ((i2 &&& (2147483647 : Int32)) % (7 : Int32))), .unset, .unset, .unset] [(.int v18_2_s0)]) := by
    intro T18_2 v18_2_s0 X18_2 e18_2 hv18_2_0
    refine own_step (f' := (mkF m 28 #[.val (.int i1), .val (.int i2), .val (.int ((i1 &&& (2147483647 : Int32)) % (7 : Int32))), .val (.int ((i2 &&& (2147483647 : Int32)) % (7 : Int32))), .val (.int v18_2_s0), .unset, .unset] [])) (fun _ k => XS.istore X18_2.here hx rfl (hb hby at_26) rfl (l' := #[.val (.int i1), .val (.int i2), .val (.int ((i1 &&& (2147483647 : Int32)) % (7 : Int32))), .val (.int ((i2 &&& (2147483647 : Int32)) % (7 : Int32))), .val (.int v18_2_s0), .unset, .unset]) rfl k) ?_
    obtain ⟨T3, h3, X3, e3, E3, A3, D3, -, st3⟩ := newO X18_2 hx hZ hown (hw _ (List.mem_of_getElem? (i := 1) rfl)) (hw _ (List.mem_of_getElem? (i := 2) rfl)) (hw _ (List.mem_of_getElem? (i := 3) rfl)) e18_2 (g := (mkF m 28 #[.val (.int i1), .val (.int i2), .val (.int ((i1 &&& (2147483647 : Int32)) % (7 : Int32))), .val (.int ((i2 &&& (2147483647 : Int32)) % (7 : Int32))), .val (.int v18_2_s0), .unset, .unset] [])) rfl (hb hby at_28) (by decide) (by decide)
    obtain ⟨b3, g3⟩ : ∃ z, z = h0.size := ⟨_, rfl⟩
    rw [← g3] at A3 D3 st3
    have g_b3 : n0 ≤ b3 := Nat.le_trans Z0 (Nat.le_of_eq g3.symm)
    have F_low_b3 : Fld Z h3 b3 "com/example/kostyashki/kostyashki/tiles/Tile" "low" "I" (.int (0 : Int32)) := D3 (Or.inr (hw _ (List.mem_of_getElem? (i := 16) rfl))) (ty := .int) (by decide)
    have F_high_b3 : Fld Z h3 b3 "com/example/kostyashki/kostyashki/tiles/Tile" "high" "I" (.int (0 : Int32)) := D3 (Or.inr (hw _ (List.mem_of_getElem? (i := 18) rfl))) (ty := .int) (by decide)
    refine own_step (f' := (mkF m 31 #[.val (.int i1), .val (.int i2), .val (.int ((i1 &&& (2147483647 : Int32)) % (7 : Int32))), .val (.int ((i2 &&& (2147483647 : Int32)) % (7 : Int32))), .val (.int v18_2_s0), .unset, .unset] [(.ref b3)])) st3 ?_
    refine own_step (f' := (mkF m 32 #[.val (.int i1), .val (.int i2), .val (.int ((i1 &&& (2147483647 : Int32)) % (7 : Int32))), .val (.int ((i2 &&& (2147483647 : Int32)) % (7 : Int32))), .val (.int v18_2_s0), .unset, .unset] [(.ref b3), (.ref b3)])) (fun _ k => XS.dup X3.here hx rfl (hb hby at_31) rfl rfl k) ?_
    refine own_step (f' := (mkF m 33 #[.val (.int i1), .val (.int i2), .val (.int ((i1 &&& (2147483647 : Int32)) % (7 : Int32))), .val (.int ((i2 &&& (2147483647 : Int32)) % (7 : Int32))), .val (.int v18_2_s0), .unset, .unset] [(.int ((i1 &&& (2147483647 : Int32)) % (7 : Int32))), (.ref b3), (.ref b3)])) (fun _ k => XS.iloadN X3.here hx rfl (hb hby at_32) rfl k) ?_
    refine own_step (f' := (mkF m 34 #[.val (.int i1), .val (.int i2), .val (.int ((i1 &&& (2147483647 : Int32)) % (7 : Int32))), .val (.int ((i2 &&& (2147483647 : Int32)) % (7 : Int32))), .val (.int v18_2_s0), .unset, .unset] [(.int ((i2 &&& (2147483647 : Int32)) % (7 : Int32))), (.int ((i1 &&& (2147483647 : Int32)) % (7 : Int32))), (.ref b3), (.ref b3)])) (fun _ k => XS.iloadN X3.here hx rfl (hb hby at_33) rfl k) ?_
    have hp4_hp1 : ¬ (((i1 &&& (2147483647 : Int32)) % (7 : Int32)) < (0 : Int32)) := (own_m7 _).1
    have hp4_hp2 : ¬ ((6 : Int32) < ((i1 &&& (2147483647 : Int32)) % (7 : Int32))) := (own_m7 _).2
    have hp4_hp3 : ¬ (((i2 &&& (2147483647 : Int32)) % (7 : Int32)) < (0 : Int32)) := (own_m7 _).1
    have hp4_hp4 : ¬ ((6 : Int32) < ((i2 &&& (2147483647 : Int32)) % (7 : Int32))) := (own_m7 _).2
    have Zq4 : n0 ≤ h3.size := (Nat.le_trans Z0 E3.1)
    obtain ⟨_, _, ⟨T4, L4, k4, n4⟩, -, X4, ⟨Lc4, hQ4, l4, y4, z4⟩, st4⟩ := X3.specialBack hx (y := (⟨"com/example/kostyashki/kostyashki/tiles/Tile", "<init>", "(II)V"⟩ : MethodName)) rfl hown (mvT hZ (hw _ (List.mem_of_getElem? (i := 4) rfl))) (mvT hZ (hw _ (List.mem_of_getElem? (i := 5) rfl))) (mvT hZ (hw _ (List.mem_of_getElem? (i := 6) rfl))) (by decide) (backOf (W := 1) (rm1 l Z a0 hw [] b3 ((i1 &&& (2147483647 : Int32)) % (7 : Int32)) ((i2 &&& (2147483647 : Int32)) % (7 : Int32)) (.int (0 : Int32)) (.int (0 : Int32)) h3 n0 Zq4 A3 F_low_b3 F_high_b3 g_b3 hp4_hp1 hp4_hp2 hp4_hp3 hp4_hp4) hZ (hw _ (List.mem_of_getElem? (i := 6) rfl)) (hw _ (List.mem_of_getElem? (i := 3) rfl)) (by decide) (by decide)) (g := (mkF m 34 #[.val (.int i1), .val (.int i2), .val (.int ((i1 &&& (2147483647 : Int32)) % (7 : Int32))), .val (.int ((i2 &&& (2147483647 : Int32)) % (7 : Int32))), .val (.int v18_2_s0), .unset, .unset] [(.int ((i2 &&& (2147483647 : Int32)) % (7 : Int32))), (.int ((i1 &&& (2147483647 : Int32)) % (7 : Int32))), (.ref b3), (.ref b3)])) rfl (by rw [hml]; rfl) (Steps.refl _) (a := b3) (argsL := [(.int ((i1 &&& (2147483647 : Int32)) % (7 : Int32))), (.int ((i2 &&& (2147483647 : Int32)) % (7 : Int32)))]) (rest := [(.ref b3)]) (lenOf pd_1 rfl) rfl (by show 2 * 0 + _ ≤ _; exact Nat.le_of_eq rfl) (hb hby at_34) (fun _ _ => ⟨rfl, e3, (by decide : 1 + 0 ≤ _), (by decide : 2 + 0 ≤ _)⟩)
    dsimp only [Pt.U, Pt.locs, Pt.cells, Pt.slots] at X4 l4 y4 z4 st4 hQ4
    subst l4 y4 z4
    obtain ⟨rfl, Nq4, K4, P4_0, P4_1, P4_2⟩ := hQ4
    obtain ⟨Lo4, X4, N4⟩ : ∃ K, Stand p l e room_1 s m #[(.int i1), (.int i2)] below meth c T4 K 1 2 ∧ Fr n0 K := ⟨_, X4, (Fr.app N0 Nq4)⟩
    refine own_jump (f' := (mkF m 37 #[.val (.int i1), .val (.int i2), .val (.int ((i1 &&& (2147483647 : Int32)) % (7 : Int32))), .val (.int ((i2 &&& (2147483647 : Int32)) % (7 : Int32))), .val (.int v18_2_s0), .unset, .unset] [(.ref b3)])) st4 ?_
    refine own_step (f' := (mkF m 39 #[.val (.int i1), .val (.int i2), .val (.int ((i1 &&& (2147483647 : Int32)) % (7 : Int32))), .val (.int ((i2 &&& (2147483647 : Int32)) % (7 : Int32))), .val (.int v18_2_s0), .val (.ref b3), .unset] [])) (fun _ k => XS.astore X4.here hx rfl (hb hby at_37) rfl rfl (l' := #[.val (.int i1), .val (.int i2), .val (.int ((i1 &&& (2147483647 : Int32)) % (7 : Int32))), .val (.int ((i2 &&& (2147483647 : Int32)) % (7 : Int32))), .val (.int v18_2_s0), .val (.ref b3), .unset]) rfl k) ?_
    obtain ⟨T5, h5, X5, e5, E5, A5, D5, -, st5⟩ := newO X4 hx hZ hown (hw _ (List.mem_of_getElem? (i := 1) rfl)) (hw _ (List.mem_of_getElem? (i := 2) rfl)) (hw _ (List.mem_of_getElem? (i := 3) rfl)) rfl (g := (mkF m 39 #[.val (.int i1), .val (.int i2), .val (.int ((i1 &&& (2147483647 : Int32)) % (7 : Int32))), .val (.int ((i2 &&& (2147483647 : Int32)) % (7 : Int32))), .val (.int v18_2_s0), .val (.ref b3), .unset] [])) rfl (hb hby at_39) (by decide) (by decide)
    obtain ⟨b5, g5⟩ : ∃ z, z = T4.heap.size := ⟨_, rfl⟩
    rw [← g5] at A5 D5 st5
    have ne_b3_b5 : b3 ≠ b5 := Nat.ne_of_lt (Nat.lt_of_lt_of_le P4_0.lt (Nat.le_of_eq g5.symm))
    have g_b5 : n0 ≤ b5 := Nat.le_trans (Nat.le_trans (Nat.le_trans Z0 E3.1) K4.1) (Nat.le_of_eq g5.symm)
    have F_low_b5 : Fld Z h5 b5 "com/example/kostyashki/kostyashki/tiles/Tile" "low" "I" (.int (0 : Int32)) := D5 (Or.inr (hw _ (List.mem_of_getElem? (i := 16) rfl))) (ty := .int) (by decide)
    have F_high_b5 : Fld Z h5 b5 "com/example/kostyashki/kostyashki/tiles/Tile" "high" "I" (.int (0 : Int32)) := D5 (Or.inr (hw _ (List.mem_of_getElem? (i := 18) rfl))) (ty := .int) (by decide)
    refine own_step (f' := (mkF m 42 #[.val (.int i1), .val (.int i2), .val (.int ((i1 &&& (2147483647 : Int32)) % (7 : Int32))), .val (.int ((i2 &&& (2147483647 : Int32)) % (7 : Int32))), .val (.int v18_2_s0), .val (.ref b3), .unset] [(.ref b5)])) st5 ?_
    refine own_step (f' := (mkF m 43 #[.val (.int i1), .val (.int i2), .val (.int ((i1 &&& (2147483647 : Int32)) % (7 : Int32))), .val (.int ((i2 &&& (2147483647 : Int32)) % (7 : Int32))), .val (.int v18_2_s0), .val (.ref b3), .unset] [(.ref b5), (.ref b5)])) (fun _ k => XS.dup X5.here hx rfl (hb hby at_42) rfl rfl k) ?_
    refine own_step (f' := (mkF m 44 #[.val (.int i1), .val (.int i2), .val (.int ((i1 &&& (2147483647 : Int32)) % (7 : Int32))), .val (.int ((i2 &&& (2147483647 : Int32)) % (7 : Int32))), .val (.int v18_2_s0), .val (.ref b3), .unset] [(.int ((i2 &&& (2147483647 : Int32)) % (7 : Int32))), (.ref b5), (.ref b5)])) (fun _ k => XS.iloadN X5.here hx rfl (hb hby at_43) rfl k) ?_
    refine own_step (f' := (mkF m 45 #[.val (.int i1), .val (.int i2), .val (.int ((i1 &&& (2147483647 : Int32)) % (7 : Int32))), .val (.int ((i2 &&& (2147483647 : Int32)) % (7 : Int32))), .val (.int v18_2_s0), .val (.ref b3), .unset] [(.int ((i1 &&& (2147483647 : Int32)) % (7 : Int32))), (.int ((i2 &&& (2147483647 : Int32)) % (7 : Int32))), (.ref b5), (.ref b5)])) (fun _ k => XS.iloadN X5.here hx rfl (hb hby at_44) rfl k) ?_
    have hp6_hp1 : ¬ (((i2 &&& (2147483647 : Int32)) % (7 : Int32)) < (0 : Int32)) := (own_m7 _).1
    have hp6_hp2 : ¬ ((6 : Int32) < ((i2 &&& (2147483647 : Int32)) % (7 : Int32))) := (own_m7 _).2
    have hp6_hp3 : ¬ (((i1 &&& (2147483647 : Int32)) % (7 : Int32)) < (0 : Int32)) := (own_m7 _).1
    have hp6_hp4 : ¬ ((6 : Int32) < ((i1 &&& (2147483647 : Int32)) % (7 : Int32))) := (own_m7 _).2
    have Zq6 : n0 ≤ h5.size := (Nat.le_trans (Nat.le_trans (Nat.le_trans Z0 E3.1) K4.1) E5.1)
    obtain ⟨_, _, ⟨T6, L6, k6, n6⟩, -, X6, ⟨Lc6, hQ6, l6, y6, z6⟩, st6⟩ := X5.specialBack hx (y := (⟨"com/example/kostyashki/kostyashki/tiles/Tile", "<init>", "(II)V"⟩ : MethodName)) rfl hown (mvT hZ (hw _ (List.mem_of_getElem? (i := 4) rfl))) (mvT hZ (hw _ (List.mem_of_getElem? (i := 5) rfl))) (mvT hZ (hw _ (List.mem_of_getElem? (i := 6) rfl))) (by decide) (backOf (W := 1) (rm1 l Z a0 hw [] b5 ((i2 &&& (2147483647 : Int32)) % (7 : Int32)) ((i1 &&& (2147483647 : Int32)) % (7 : Int32)) (.int (0 : Int32)) (.int (0 : Int32)) h5 n0 Zq6 A5 F_low_b5 F_high_b5 g_b5 hp6_hp1 hp6_hp2 hp6_hp3 hp6_hp4) hZ (hw _ (List.mem_of_getElem? (i := 6) rfl)) (hw _ (List.mem_of_getElem? (i := 3) rfl)) (by decide) (by decide)) (g := (mkF m 45 #[.val (.int i1), .val (.int i2), .val (.int ((i1 &&& (2147483647 : Int32)) % (7 : Int32))), .val (.int ((i2 &&& (2147483647 : Int32)) % (7 : Int32))), .val (.int v18_2_s0), .val (.ref b3), .unset] [(.int ((i1 &&& (2147483647 : Int32)) % (7 : Int32))), (.int ((i2 &&& (2147483647 : Int32)) % (7 : Int32))), (.ref b5), (.ref b5)])) rfl (by rw [hml]; rfl) (Steps.refl _) (a := b5) (argsL := [(.int ((i2 &&& (2147483647 : Int32)) % (7 : Int32))), (.int ((i1 &&& (2147483647 : Int32)) % (7 : Int32)))]) (rest := [(.ref b5)]) (lenOf pd_1 rfl) rfl (by show 2 * 0 + _ ≤ _; exact Nat.le_of_eq rfl) (hb hby at_45) (fun _ _ => ⟨rfl, e5, (by decide : 2 + 0 ≤ _), (by decide : 4 + 0 ≤ _)⟩)
    dsimp only [Pt.U, Pt.locs, Pt.cells, Pt.slots] at X6 l6 y6 z6 st6 hQ6
    subst l6 y6 z6
    obtain ⟨rfl, Nq6, K6, P6_0, P6_1, P6_2⟩ := hQ6
    obtain ⟨Lo6, X6, N6⟩ : ∃ K, Stand p l e room_1 s m #[(.int i1), (.int i2)] below meth c T6 K 2 4 ∧ Fr n0 K := ⟨_, X6, (Fr.app N4 Nq6)⟩
    refine own_jump (f' := (mkF m 48 #[.val (.int i1), .val (.int i2), .val (.int ((i1 &&& (2147483647 : Int32)) % (7 : Int32))), .val (.int ((i2 &&& (2147483647 : Int32)) % (7 : Int32))), .val (.int v18_2_s0), .val (.ref b3), .unset] [(.ref b5)])) st6 ?_
    refine own_step (f' := (mkF m 50 #[.val (.int i1), .val (.int i2), .val (.int ((i1 &&& (2147483647 : Int32)) % (7 : Int32))), .val (.int ((i2 &&& (2147483647 : Int32)) % (7 : Int32))), .val (.int v18_2_s0), .val (.ref b3), .val (.ref b5)] [])) (fun _ k => XS.astore X6.here hx rfl (hb hby at_48) rfl rfl (l' := #[.val (.int i1), .val (.int i2), .val (.int ((i1 &&& (2147483647 : Int32)) % (7 : Int32))), .val (.int ((i2 &&& (2147483647 : Int32)) % (7 : Int32))), .val (.int v18_2_s0), .val (.ref b3), .val (.ref b5)]) rfl k) ?_
    refine own_step (f' := (mkF m 52 #[.val (.int i1), .val (.int i2), .val (.int ((i1 &&& (2147483647 : Int32)) % (7 : Int32))), .val (.int ((i2 &&& (2147483647 : Int32)) % (7 : Int32))), .val (.int v18_2_s0), .val (.ref b3), .val (.ref b5)] [(.ref b3)])) (fun _ k => XS.aload X6.here hx rfl (hb hby at_50) rfl rfl k) ?_
    have Zq7 : n0 ≤ T6.heap.size := (Nat.le_trans (Nat.le_trans (Nat.le_trans (Nat.le_trans Z0 E3.1) K4.1) E5.1) K6.1)
    obtain ⟨cq7, kq7, q7a, q7b, q7c⟩ := isOf hZ rfl ((P4_0.ext E5).keep K6)
    obtain ⟨_, _, ⟨T7, L7, k7, n7⟩, -, X7, ⟨Lc7, hQ7, l7, y7, z7⟩, st7⟩ := X6.virtualBack hx (y := (⟨"com/example/kostyashki/kostyashki/tiles/Tile", "isDouble", "()Z"⟩ : MethodName)) (z := (⟨"com/example/kostyashki/kostyashki/tiles/Tile", "isDouble", "()Z"⟩ : MethodName)) hown (mvT hZ (hw _ (List.mem_of_getElem? (i := 19) rfl))) (mvT hZ (hw _ (List.mem_of_getElem? (i := 20) rfl))) (notFace_of_selects (args := #[]) (mvT hZ (hw _ (List.mem_of_getElem? (i := 22) rfl)))) (mvT hZ (hw _ (List.mem_of_getElem? (i := 22) rfl))) (mvT hZ (hw _ (List.mem_of_getElem? (i := 21) rfl))) (by decide) (backOf (W := 0) (rm4 l Z a0 hw [] b3 (own_lo ((i1 &&& (2147483647 : Int32)) % (7 : Int32)) ((i2 &&& (2147483647 : Int32)) % (7 : Int32))) (own_hi ((i1 &&& (2147483647 : Int32)) % (7 : Int32)) ((i2 &&& (2147483647 : Int32)) % (7 : Int32))) T6.heap n0 Zq7 ((P4_1.ext E5).keep K6 (ninS ne_b3_b5 nin0)) ((P4_2.ext E5).keep K6 (ninS ne_b3_b5 nin0))) hZ (hw _ (List.mem_of_getElem? (i := 23) rfl)) (hw _ (List.mem_of_getElem? (i := 3) rfl)) (by decide) (by decide)) q7a q7c (g := (mkF m 52 #[.val (.int i1), .val (.int i2), .val (.int ((i1 &&& (2147483647 : Int32)) % (7 : Int32))), .val (.int ((i2 &&& (2147483647 : Int32)) % (7 : Int32))), .val (.int v18_2_s0), .val (.ref b3), .val (.ref b5)] [(.ref b3)])) rfl (by rw [hml]; rfl) (Steps.refl _) (argsL := []) (rest := []) (lenOf pd_2 rfl) rfl (by show 2 * 0 + _ ≤ _; exact Nat.le_of_eq rfl) (hb hby at_52) (fun _ _ => ⟨rfl, rfl, (by decide : 2 + 0 ≤ _), (by decide : 4 + 0 ≤ _)⟩)
    dsimp only [Pt.U, Pt.locs, Pt.cells, Pt.slots] at X7 l7 y7 z7 st7 hQ7
    subst l7 y7 z7
    obtain ⟨rfl, rfl, e7⟩ := hQ7
    try rw [List.append_nil] at X7
    refine own_jump (f' := (mkF m 55 #[.val (.int i1), .val (.int i2), .val (.int ((i1 &&& (2147483647 : Int32)) % (7 : Int32))), .val (.int ((i2 &&& (2147483647 : Int32)) % (7 : Int32))), .val (.int v18_2_s0), .val (.ref b3), .val (.ref b5)] [(.int (own_eqI (own_lo ((i1 &&& (2147483647 : Int32)) % (7 : Int32)) ((i2 &&& (2147483647 : Int32)) % (7 : Int32))) (own_hi ((i1 &&& (2147483647 : Int32)) % (7 : Int32)) ((i2 &&& (2147483647 : Int32)) % (7 : Int32)))))])) st7 ?_
    refine own_step (f' := (mkF m 57 #[.val (.int i1), .val (.int i2), .val (.int ((i1 &&& (2147483647 : Int32)) % (7 : Int32))), .val (.int ((i2 &&& (2147483647 : Int32)) % (7 : Int32))), .val (.int v18_2_s0), .val (.ref b3), .val (.ref b5)] [(.int v18_2_s0), (.int (own_eqI (own_lo ((i1 &&& (2147483647 : Int32)) % (7 : Int32)) ((i2 &&& (2147483647 : Int32)) % (7 : Int32))) (own_hi ((i1 &&& (2147483647 : Int32)) % (7 : Int32)) ((i2 &&& (2147483647 : Int32)) % (7 : Int32)))))])) (fun _ k => XS.iload X7.here hx rfl (hb hby at_55) rfl k) ?_
    have hf57_8 : (own_eqI (own_lo ((i1 &&& (2147483647 : Int32)) % (7 : Int32)) ((i2 &&& (2147483647 : Int32)) % (7 : Int32))) (own_hi ((i1 &&& (2147483647 : Int32)) % (7 : Int32)) ((i2 &&& (2147483647 : Int32)) % (7 : Int32)))) = v18_2_s0 := (own_dbl _ _ _ hv18_2_0).1
    refine own_step (f' := (mkF m 60 #[.val (.int i1), .val (.int i2), .val (.int ((i1 &&& (2147483647 : Int32)) % (7 : Int32))), .val (.int ((i2 &&& (2147483647 : Int32)) % (7 : Int32))), .val (.int v18_2_s0), .val (.ref b3), .val (.ref b5)] [])) (fun _ k => XS.icmpNo X7.here hx rfl (hb hby at_57) rfl (teq hf57_8).2 k) ?_
    refine own_step (f' := (mkF m 62 #[.val (.int i1), .val (.int i2), .val (.int ((i1 &&& (2147483647 : Int32)) % (7 : Int32))), .val (.int ((i2 &&& (2147483647 : Int32)) % (7 : Int32))), .val (.int v18_2_s0), .val (.ref b3), .val (.ref b5)] [(.ref b5)])) (fun _ k => XS.aload X7.here hx rfl (hb hby at_60) rfl rfl k) ?_
    have Zq9 : n0 ≤ T6.heap.size := (Nat.le_trans (Nat.le_trans (Nat.le_trans (Nat.le_trans Z0 E3.1) K4.1) E5.1) K6.1)
    obtain ⟨cq9, kq9, q9a, q9b, q9c⟩ := isOf hZ e7 P6_0
    obtain ⟨_, _, ⟨T9, L9, k9, n9⟩, -, X9, ⟨Lc9, hQ9, l9, y9, z9⟩, st9⟩ := X7.virtualBack hx (y := (⟨"com/example/kostyashki/kostyashki/tiles/Tile", "isDouble", "()Z"⟩ : MethodName)) (z := (⟨"com/example/kostyashki/kostyashki/tiles/Tile", "isDouble", "()Z"⟩ : MethodName)) hown (mvT hZ (hw _ (List.mem_of_getElem? (i := 19) rfl))) (mvT hZ (hw _ (List.mem_of_getElem? (i := 20) rfl))) (notFace_of_selects (args := #[]) (mvT hZ (hw _ (List.mem_of_getElem? (i := 22) rfl)))) (mvT hZ (hw _ (List.mem_of_getElem? (i := 22) rfl))) (mvT hZ (hw _ (List.mem_of_getElem? (i := 21) rfl))) (by decide) (backOf (W := 0) (rm4 l Z a0 hw [] b5 (own_lo ((i2 &&& (2147483647 : Int32)) % (7 : Int32)) ((i1 &&& (2147483647 : Int32)) % (7 : Int32))) (own_hi ((i2 &&& (2147483647 : Int32)) % (7 : Int32)) ((i1 &&& (2147483647 : Int32)) % (7 : Int32))) T6.heap n0 Zq9 P6_1 P6_2) hZ (hw _ (List.mem_of_getElem? (i := 23) rfl)) (hw _ (List.mem_of_getElem? (i := 3) rfl)) (by decide) (by decide)) q9a q9c (g := (mkF m 62 #[.val (.int i1), .val (.int i2), .val (.int ((i1 &&& (2147483647 : Int32)) % (7 : Int32))), .val (.int ((i2 &&& (2147483647 : Int32)) % (7 : Int32))), .val (.int v18_2_s0), .val (.ref b3), .val (.ref b5)] [(.ref b5)])) rfl (by rw [hml]; rfl) (Steps.refl _) (argsL := []) (rest := []) (lenOf pd_2 rfl) rfl (by show 2 * 0 + _ ≤ _; exact Nat.le_of_eq rfl) (hb hby at_62) (fun _ _ => ⟨rfl, e7, (by decide : 2 + 0 ≤ _), (by decide : 4 + 0 ≤ _)⟩)
    dsimp only [Pt.U, Pt.locs, Pt.cells, Pt.slots] at X9 l9 y9 z9 st9 hQ9
    subst l9 y9 z9
    obtain ⟨rfl, rfl, e9⟩ := hQ9
    try rw [List.append_nil] at X9
    refine own_jump (f' := (mkF m 65 #[.val (.int i1), .val (.int i2), .val (.int ((i1 &&& (2147483647 : Int32)) % (7 : Int32))), .val (.int ((i2 &&& (2147483647 : Int32)) % (7 : Int32))), .val (.int v18_2_s0), .val (.ref b3), .val (.ref b5)] [(.int (own_eqI (own_lo ((i2 &&& (2147483647 : Int32)) % (7 : Int32)) ((i1 &&& (2147483647 : Int32)) % (7 : Int32))) (own_hi ((i2 &&& (2147483647 : Int32)) % (7 : Int32)) ((i1 &&& (2147483647 : Int32)) % (7 : Int32)))))])) st9 ?_
    refine own_step (f' := (mkF m 67 #[.val (.int i1), .val (.int i2), .val (.int ((i1 &&& (2147483647 : Int32)) % (7 : Int32))), .val (.int ((i2 &&& (2147483647 : Int32)) % (7 : Int32))), .val (.int v18_2_s0), .val (.ref b3), .val (.ref b5)] [(.int v18_2_s0), (.int (own_eqI (own_lo ((i2 &&& (2147483647 : Int32)) % (7 : Int32)) ((i1 &&& (2147483647 : Int32)) % (7 : Int32))) (own_hi ((i2 &&& (2147483647 : Int32)) % (7 : Int32)) ((i1 &&& (2147483647 : Int32)) % (7 : Int32)))))])) (fun _ k => XS.iload X9.here hx rfl (hb hby at_65) rfl k) ?_
    have hf67_10 : (own_eqI (own_lo ((i2 &&& (2147483647 : Int32)) % (7 : Int32)) ((i1 &&& (2147483647 : Int32)) % (7 : Int32))) (own_hi ((i2 &&& (2147483647 : Int32)) % (7 : Int32)) ((i1 &&& (2147483647 : Int32)) % (7 : Int32)))) = v18_2_s0 := (own_dbl _ _ _ hv18_2_0).2
    refine own_step (f' := (mkF m 70 #[.val (.int i1), .val (.int i2), .val (.int ((i1 &&& (2147483647 : Int32)) % (7 : Int32))), .val (.int ((i2 &&& (2147483647 : Int32)) % (7 : Int32))), .val (.int v18_2_s0), .val (.ref b3), .val (.ref b5)] [])) (fun _ k => XS.icmpNo X9.here hx rfl (hb hby at_67) rfl (teq hf67_10).2 k) ?_
    refine own_step (f' := (mkF m 71 #[.val (.int i1), .val (.int i2), .val (.int ((i1 &&& (2147483647 : Int32)) % (7 : Int32))), .val (.int ((i2 &&& (2147483647 : Int32)) % (7 : Int32))), .val (.int v18_2_s0), .val (.ref b3), .val (.ref b5)] [(.int (1 : Int32))])) (fun _ k => XS.iconst X9.here hx rfl (hb hby at_70) k) ?_
    refine own_step (f' := (mkF m 75 #[.val (.int i1), .val (.int i2), .val (.int ((i1 &&& (2147483647 : Int32)) % (7 : Int32))), .val (.int ((i2 &&& (2147483647 : Int32)) % (7 : Int32))), .val (.int v18_2_s0), .val (.ref b3), .val (.ref b5)] [(.int (1 : Int32))])) (fun _ k => XS.goto X9.here hx rfl (pc0 := 71) (pc' := 75) rfl (hb hby at_71) (by decide) (by decide) k) ?_
    refine own_out (v := some (.int (1 : Int32))) X9 hlk (fun h => by rw [Bd.returns] at h; cases h) (fun fs hr => retN X9 hx (t := .boolean) Bd.returns (by simp) (hb hby at_75) hr) (by decide) (by decide) ?_
    exact ⟨rfl, N6⟩
  by_cases hc18_1 : ((i1 &&& (2147483647 : Int32)) % (7 : Int32)) = ((i2 &&& (2147483647 : Int32)) % (7 : Int32))
  · refine own_step (f' := (mkF m 21 #[.val (.int i1), .val (.int i2), .val (.int ((i1 &&& (2147483647 : Int32)) % (7 : Int32))), .val (.int ((i2 &&& (2147483647 : Int32)) % (7 : Int32))), .unset, .unset, .unset] [])) (fun _ k => XS.icmpNo X0.here hx rfl (hb hby at_18) rfl (teq hc18_1).2 k) ?_
    refine own_step (f' := (mkF m 22 #[.val (.int i1), .val (.int i2), .val (.int ((i1 &&& (2147483647 : Int32)) % (7 : Int32))), .val (.int ((i2 &&& (2147483647 : Int32)) % (7 : Int32))), .unset, .unset, .unset] [(.int (1 : Int32))])) (fun _ k => XS.iconst X0.here hx rfl (hb hby at_21) k) ?_
    refine own_step (f' := (mkF m 26 #[.val (.int i1), .val (.int i2), .val (.int ((i1 &&& (2147483647 : Int32)) % (7 : Int32))), .val (.int ((i2 &&& (2147483647 : Int32)) % (7 : Int32))), .unset, .unset, .unset] [(.int (1 : Int32))])) (fun _ k => XS.goto X0.here hx rfl (pc0 := 22) (pc' := 26) rfl (hb hby at_22) (by decide) (by decide) k) ?_
    exact J18_2 _ (1 : Int32) X0 e0 (by rw [if_pos hc18_1])
  · refine own_step (f' := (mkF m 25 #[.val (.int i1), .val (.int i2), .val (.int ((i1 &&& (2147483647 : Int32)) % (7 : Int32))), .val (.int ((i2 &&& (2147483647 : Int32)) % (7 : Int32))), .unset, .unset, .unset] [])) (fun _ k => XS.icmpYes X0.here hx rfl (pc0 := 18) (pc' := 25) rfl (hb hby at_18) rfl (feq hc18_1).2 (by decide) (by decide) k) ?_
    refine own_step (f' := (mkF m 26 #[.val (.int i1), .val (.int i2), .val (.int ((i1 &&& (2147483647 : Int32)) % (7 : Int32))), .val (.int ((i2 &&& (2147483647 : Int32)) % (7 : Int32))), .unset, .unset, .unset] [(.int (0 : Int32))])) (fun _ k => XS.iconst X0.here hx rfl (hb hby at_25) k) ?_
    exact J18_2 _ (0 : Int32) X0 e0 (by rw [if_neg hc18_1])
set_option maxRecDepth 65536 in
set_option maxHeartbeats 40000000 in
theorem comes_1 {Post : Tables → Env → Array Value → State → Outcome → State → Prop} (hpost : ∀ tb e args s v u, (limb_1_1.after args s (.returned v) u = true ∧ limb_1_2.after args s (.returned v) u = true ∧ True) → FrameEnd s (.returned v) u (Jvm.fieldLocs frame_1_writes args s ++ Jvm.arrayLocs frame_1_arrays args s ++ Jvm.staticLocs frame_1_statics s) 16 128 → Post tb e args s (.returned v) u) :
    ArmFor flags0 classFile x code maxLocals ret World_1 tables_1 room_1 Calls_1 rest_1 Pre_1 Post := by
  intro l hfl _ _ p e ha hc hk s m args below hf hA hF happ hP
  obtain ⟨hcalls, hrest, hpre⟩ := hP
  obtain ⟨-, -, -, hnamed, -, -, -, hat⟩ := (Spec.applies_iff hf).mp happ
  obtain ⟨hg, hn⟩ := and_e (Cond.before_iff.mp (show (Jvm.Cond.and given_1 narrow_1).before args s = true from hpre))
  obtain ⟨gq1, gq2⟩ := and_e hg
  obtain ⟨gq3, gq4⟩ := and_e gq2
  obtain ⟨w0, w1, rfl⟩ : ∃ w0 w1 : Value, args = #[w0, w1] := by
    have hs : args.size = 2 := by simpa [Cond.value, given_1] using gq1
    obtain ⟨L⟩ := args
    match L, hs with
    | [w0, w1], _ => exact ⟨w0, w1, rfl⟩
  have hw := fun d (hd : d ∈ tables_1) => atoms_spec (ws := Jvm.Cond.code x code maxLocals ret :: tables_1) hat d (List.mem_cons_of_mem _ hd)
  have hfit : Fit s := fun {y c} hc i hi => by
    obtain ⟨ha, rfl⟩ := Array.getElem?_eq_some_iff.mp hc
    have q := List.all_eq_true.mp ((Array.all_eq_true_iff_forall_mem.mp hF) _ (Array.getElem_mem ha)) i (List.mem_range.mpr hi)
    simpa [Array.getElem?_eq_getElem hi] using q
  obtain ⟨i0, ei0⟩ := is_v gq3
  obtain rfl : w0 = (.int i0) := Option.some.inj ei0
  obtain ⟨i1, ei1⟩ := is_v gq4
  obtain rfl : w1 = (.int i1) := Option.some.inj ei1
  obtain ⟨n, o, h1, h2, h3, _, L, rfl, ⟨rfl, N⟩, hq⟩ := rm0 l s _ hw tables_1 i0 i1  s.heap s.heap.size (Nat.le_refl _)  p e ha hc hk s m _ below hf ((Spec.applies_iff_loose hf).mp happ).1 ⟨rfl, State.Warmed39.refl s, rfl⟩ trivial
  refine ⟨n, _, h1, h2, h3, hpost _ _ _ _ _ _ ⟨Cond.after_iff.mpr rfl, Cond.after_iff.mpr (eq_i res_at (Term.int_eval (1)) rfl), trivial⟩ ⟨hq.1, hq.2.1, (hq.2.2.sift fun y hy => Or.inr (N y hy)).mono (by decide) (by decide)⟩⟩
theorem main_1_1 : Claimed_1_1 := comes_1 fun _ _ _ _ _ _ h hF => ⟨h.1, hF⟩
theorem main_1_2 : Claimed_1_2 := comes_1 fun _ _ _ _ _ _ h hF => ⟨h.2.1, hF⟩
end Jvm.Pilot.@@N@@
namespace Jvm.Pilot.@@N@@
open Jvm Jvm.ClassFile Sem Op Lib Jvm.Free Jvm.Stand Jvm.Pilot.@@N@@.Jvm.D
/-! MADE BY PROGRAM (witnessworld.py) out of the Statement's table words and the real class files: 10 classes; the members and pool entries that the words name. The judged class is class 1, her method 1. -/
namespace start1
open Jvm.ClassFile
def u (s : String) : CpInfo := .utf8 (stringToUtf16 s)
/-- a pool by its gaps: so many unusable entries, then the entry; so many at the end -/
def gap : Nat → List CpInfo → List CpInfo
  | 0, r => r
  | n + 1, r => .unusable :: gap n r
def poolList (es : List (Nat × CpInfo)) (last : Nat) : List CpInfo := es.foldr (fun e r => gap e.1 (e.2 :: r)) (gap last [])
def pool (es : List (Nat × CpInfo)) (last : Nat) : Array CpInfo := ⟨poolList es last⟩
def fileOf (pool : Array CpInfo) (this : Nat) (attrs : Array Attribute := #[]) (ms : Array MethodInfo := #[]) (fl : Nat := 33) (sup : Nat := 0) (ifs : Array Nat := #[]) (fds : Array FieldInfo := #[]) : ClassFile where
  minorVersion := 0
  majorVersion := 65
  constantPool := pool
  accessFlags := fl
  thisClass := this
  superClass := sup
  interfaces := ifs
  fields := fds
  methods := ms
  attributes := attrs
def plain (name : String) (sup : Option ClassId) : Class where
  name := name
  kind := .ordinary
  loader := none
  accessFlags := 33
  super := sup
  interfaces := #[]
  cf := none
  fields := #[]
  methods := #[]
  instanceTypes := #[]
  staticTypes := #[]
  resolved := #[]
  callSites := []
  init := .initialized
  statics := none
  mirror := none

def pool0 : Array CpInfo := pool [(5, u "<init>"), (0, u "()V"), (1, .class_ 10), (1, u "java/lang/Object")] 113

def k0c0 : Code := { maxStack := 0, maxLocals := 1, code := object_method_1_code, exceptionTable := #[], attributes := #[] }
def k0m0 : Method := { name := "<init>", desc := "()V", sig := { parameters := [], returnType := none }, accessFlags := 1, code := some k0c0 }
/-- java/lang/Object -/
def k0 : Class := { plain "java/lang/Object" none with
  accessFlags := 33
  interfaces := #[]
  cf := some (fileOf pool0 8 #[] #[{ accessFlags := 1, nameIndex := 5, descriptorIndex := 6, attributes := #[] }] 33 0 #[] #[])
  fields := #[]
  methods := #[k0m0]
  instanceTypes := #[]
  staticTypes := #[]
  resolved := Array.replicate 124 none
  statics := none }

def pool1 : Array CpInfo := pool [(2, .class_ 4), (1, u "java/lang/Object"), (0, u "<init>"), (0, u "()V"), (0, .integer 2147483647), (0, .class_ 9), (0, u "com/example/kostyashki/kostyashki/tiles/Tile"), (0, .methodref 8 11), (0, .nameAndType 5 12), (0, u "(II)V"), (0, .methodref 8 14), (0, .nameAndType 15 16), (0, u "isDouble"), (0, u "()Z"), (0, .class_ 18), (0, u "com/example/kostyashki/kostyashki/tiles/TileIsDoublePinLaw"), (2, u "law"), (0, u "(II)Z")] 3

def k1m0 : Method := { name := "<init>", desc := "()V", sig := { parameters := [], returnType := none }, accessFlags := 1, code := none }
def k1c1 : Code := { maxStack := 4, maxLocals := 7, code := code, exceptionTable := #[], attributes := #[] }
def k1m1 : Method := { name := "law", desc := "(II)Z", sig := { parameters := [.int, .int], returnType := some .boolean }, accessFlags := 9, code := some k1c1 }
/-- com/example/kostyashki/kostyashki/tiles/TileIsDoublePinLaw -/
def k1 : Class := { plain "com/example/kostyashki/kostyashki/tiles/TileIsDoublePinLaw" (some 0) with
  accessFlags := 49
  interfaces := #[]
  cf := some (fileOf pool1 17 #[] #[{ accessFlags := 1, nameIndex := 5, descriptorIndex := 6, attributes := #[] }, { accessFlags := 9, nameIndex := 21, descriptorIndex := 22, attributes := #[] }] 49 2 #[] #[])
  fields := #[]
  methods := #[k1m0, k1m1]
  instanceTypes := #[]
  staticTypes := #[]
  resolved := Array.replicate 26 none
  statics := none }

def pool2 : Array CpInfo := pool [(1, .methodref 2 3), (0, .class_ 4), (0, .nameAndType 5 6), (0, u "java/lang/Object"), (0, u "<init>"), (0, u "()V"), (0, .class_ 8), (0, u "java/lang/Record")] 13

def k2c0 : Code := { maxStack := 1, maxLocals := 1, code := jdk_30_method_1_code, exceptionTable := #[], attributes := #[] }
def k2m0 : Method := { name := "<init>", desc := "()V", sig := { parameters := [], returnType := none }, accessFlags := 4, code := some k2c0 }
/-- java/lang/Record -/
def k2 : Class := { plain "java/lang/Record" (some 0) with
  accessFlags := 1057
  interfaces := #[]
  cf := some (fileOf pool2 7 #[] #[{ accessFlags := 4, nameIndex := 5, descriptorIndex := 6, attributes := #[] }] 1057 2 #[] #[])
  fields := #[]
  methods := #[k2m0]
  instanceTypes := #[]
  staticTypes := #[]
  resolved := Array.replicate 22 none
  statics := none }

def pool3 : Array CpInfo := pool [(1, .methodref 2 3), (0, .class_ 4), (0, .nameAndType 5 6), (0, u "java/lang/Record"), (0, u "<init>"), (0, u "()V"), (0, .class_ 8), (0, u "com/example/kostyashki/kostyashki/tiles/Tile"), (9, .fieldref 7 19), (0, .nameAndType 20 21), (0, u "low"), (0, u "I"), (0, .fieldref 7 23), (0, .nameAndType 24 21), (0, u "high"), (2, u "SET"), (0, u "Ljava/util/List;"), (19, u "(II)V"), (28, u "MAX_HALF"), (12, u "isDouble"), (0, u "()Z")] 37

def k3c0 : Code := { maxStack := 4, maxLocals := 4, code := prog_59_method_1_code, exceptionTable := #[], attributes := #[] }
def k3m0 : Method := { name := "<init>", desc := "(II)V", sig := { parameters := [.int, .int], returnType := none }, accessFlags := 1, code := some k3c0 }
def k3c1 : Code := { maxStack := 2, maxLocals := 1, code := prog_59_method_4_code, exceptionTable := #[], attributes := #[] }
def k3m1 : Method := { name := "isDouble", desc := "()Z", sig := { parameters := [], returnType := some .boolean }, accessFlags := 1, code := some k3c1 }
/-- com/example/kostyashki/kostyashki/tiles/Tile -/
def k3 : Class := { plain "com/example/kostyashki/kostyashki/tiles/Tile" (some 2) with
  accessFlags := 49
  interfaces := #[]
  cf := some (fileOf pool3 7 #[] #[{ accessFlags := 1, nameIndex := 5, descriptorIndex := 48, attributes := #[] }, { accessFlags := 1, nameIndex := 90, descriptorIndex := 91, attributes := #[] }] 49 2 #[] #[{ accessFlags := 18, nameIndex := 20, descriptorIndex := 21, attributes := #[] }, { accessFlags := 18, nameIndex := 24, descriptorIndex := 21, attributes := #[] }, { accessFlags := 25, nameIndex := 77, descriptorIndex := 21, attributes := #[] }, { accessFlags := 26, nameIndex := 27, descriptorIndex := 28, attributes := #[] }])
  fields := #[{ name := "low", type := .int, accessFlags := 18, slot := 0, constantValue := 0 }, { name := "high", type := .int, accessFlags := 18, slot := 1, constantValue := 0 }, { name := "MAX_HALF", type := .int, accessFlags := 25, slot := 0, constantValue := 0 }, { name := "SET", type := (.object "java/util/List"), accessFlags := 26, slot := 1, constantValue := 0 }]
  methods := #[k3m0, k3m1]
  instanceTypes := #[.int, .int]
  staticTypes := #[.int, (.object "java/util/List")]
  resolved := Array.replicate 129 none
  statics := none }

def pool4 : Array CpInfo := pool [(1, u "java/lang/Cloneable"), (0, .class_ 1), (0, u "java/lang/Object"), (0, .class_ 3)] 3

/-- java/lang/Cloneable -/
def k4 : Class := { plain "java/lang/Cloneable" (some 0) with
  accessFlags := 1537
  interfaces := #[]
  cf := some (fileOf pool4 2 #[] #[] 1537 4 #[] #[])
  fields := #[]
  methods := #[]
  instanceTypes := #[]
  staticTypes := #[]
  resolved := Array.replicate 8 none
  statics := none }

def pool5 : Array CpInfo := pool [(1, u "java/io/Serializable"), (0, .class_ 1), (0, u "java/lang/Object"), (0, .class_ 3)] 3

/-- java/io/Serializable -/
def k5 : Class := { plain "java/io/Serializable" (some 0) with
  accessFlags := 1537
  interfaces := #[]
  cf := some (fileOf pool5 2 #[] #[] 1537 4 #[] #[])
  fields := #[]
  methods := #[]
  instanceTypes := #[]
  staticTypes := #[]
  resolved := Array.replicate 8 none
  statics := none }

/-- the primitive byte -/
def k6 : Class := { plain "byte" none with kind := .primitive 'B', accessFlags := 0x411 }
/-- [B -/
def k7 : Class := { plain "[B" (some 0) with kind := .array 6 .byte, interfaces := #[4, 5], accessFlags := 1041 }

/-- the primitive int -/
def k8 : Class := { plain "int" none with kind := .primitive 'I', accessFlags := 0x411 }
/-- [I -/
def k9 : Class := { plain "[I" (some 0) with kind := .array 8 .int, interfaces := #[4, 5], accessFlags := 1041 }

def heap : Heap := #[]
def classes : Array Class := #[k0, k1, k2, k3, k4, k5, k6, k7, k8, k9]
def interned : List (Array UInt16 × Addr) := []
def slotsUsed : Nat := 0
def theMethod : MethodId := ⟨1, 1⟩
def args0 : Array Value := #[.int 5, .int 5]
def aboutOver (below : List Frame) : State where
  vm := { classes := classes, interned := interned.toArray }
  heap := heap
  slotsUsed := slotsUsed
  threads := #[{ frames := .invoking theMethod args0 :: below }]
def below0 : List Frame := [.native { method := ⟨0, 0⟩, args := #[] }]
def about1 : State := aboutOver below0
def p0 : Program := .bare "" "" ""
def e0 : Env := launch0.env 0 0 0
theorem w_frames : about1.frames = Frame.invoking theMethod args0 :: below0 := rfl
set_option maxRecDepth 65536 in
theorem w_args : argsFit about1.vm theMethod args0 = true := by decide +kernel
set_option maxRecDepth 65536 in
theorem w_heap : heapFits about1 = true := by decide +kernel
set_option maxRecDepth 65536 in
theorem w_runnable : about1.curStatus? = some .runnable := by decide +kernel
set_option maxRecDepth 65536 in
theorem w_alone : about1.alone = true := by decide +kernel
set_option maxRecDepth 65536 in
theorem w_named : about1.methodNamed? x = some theMethod := by decide +kernel
set_option maxRecDepth 65536 in
theorem w_hears : about1.hears theMethod below0 = true := by decide +kernel
set_option maxRecDepth 65536 in
theorem w_ripe : about1.ripe theMethod args0 below0 = true := by decide +kernel
theorem w_running : about1.status = .running := rfl
set_option maxRecDepth 65536 in
theorem w_room : about1.hasRoom e0.platform room_1 = true :=
  launch0.hasRoom_least _ room_1 (by decide +kernel) (by decide +kernel) (by decide +kernel) (by decide +kernel) (by decide +kernel) (by decide +kernel)
theorem allAtoms_all (ts : List Jvm.Cond) (a : Array Jvm.Value) (st : Jvm.State) : (allAtoms ts).before a st = ts.all (fun c => c.before a st) := by
  induction ts with
  | nil => rfl
  | cons c t ih =>
    show (Jvm.Cond.and c (allAtoms t)).before a st = _
    rw [Jvm.Cond.before_and, ih, List.all_cons]
def words1 : List Jvm.Cond := Jvm.Cond.code x code maxLocals ret :: tables_1
/-- a 'code' word, met by the world's own term for the bytes: nothing is compared byte by byte -/
theorem code_word {y : MethodName} {bytes : ByteArray} {mx : Nat} {rt : Option FieldType} {a : Array Value} {s : State} {m : MethodId} {meth : Method} {c : Code} (h1 : s.methodNamed? y = some m) (h2 : s.vm.method? m = some meth) (h3 : meth.code = some c) (h4 : c.code = bytes)
    (h5 : (c.maxLocals == mx && c.exceptionTable.isEmpty && decide (c.maxStack ≤ mostOperands) && decide (meth.sig.returnType = rt) && !meth.locks && decide (parseMethodDescriptor y.desc = some meth.sig)) = true) : (Jvm.Cond.code y bytes mx rt).before a s = true := by
  simp only [Bool.and_eq_true, beq_iff_eq, Bool.not_eq_true', decide_eq_true_eq] at h5
  obtain ⟨⟨⟨⟨⟨g1, g2⟩, g3⟩, g4⟩, g5⟩, g6⟩ := h5
  simp [Cond.before, Cond.holds, Cond.value, h1, h2, h3, h4, g1, g2, g3, g4, g5, g6]
def isCode : Jvm.Cond → Bool
  | .code _ _ _ _ => true
  | _ => false
theorem all_split {L : List Jvm.Cond} {P : Jvm.Cond → Bool} (h1 : L.all (fun c => isCode c || P c) = true) (h2 : ∀ c ∈ L.filter isCode, P c = true) : L.all P = true := by
  refine List.all_eq_true.mpr fun c hc => ?_
  have h := List.all_eq_true.mp h1 c hc
  rcases Bool.eq_false_or_eq_true (isCode c) with hi | hi
  · exact h2 c (List.mem_filter.mpr ⟨hc, hi⟩)
  · simpa [hi] using h
set_option maxRecDepth 65536 in
theorem w_c0 : (Jvm.Cond.code x code maxLocals ret).before args0 about1 = true := code_word (m := ⟨1, 1⟩) (meth := k1m1) (c := k1c1) (by decide +kernel) rfl rfl rfl (by decide +kernel)
set_option maxRecDepth 65536 in
theorem w_c1 : (Jvm.Cond.code ({ cls := "com/example/kostyashki/kostyashki/tiles/Tile", name := "<init>", desc := "(II)V" } : Jvm.MethodName) prog_59_method_1_code (4 : Nat) (Option.none : Option Jvm.ClassFile.FieldType)).before args0 about1 = true := code_word (m := ⟨3, 0⟩) (meth := k3m0) (c := k3c0) (by decide +kernel) rfl rfl rfl (by decide +kernel)
set_option maxRecDepth 65536 in
theorem w_c2 : (Jvm.Cond.code ({ cls := "java/lang/Record", name := "<init>", desc := "()V" } : Jvm.MethodName) jdk_30_method_1_code (1 : Nat) (Option.none : Option Jvm.ClassFile.FieldType)).before args0 about1 = true := code_word (m := ⟨2, 0⟩) (meth := k2m0) (c := k2c0) (by decide +kernel) rfl rfl rfl (by decide +kernel)
set_option maxRecDepth 65536 in
theorem w_c3 : (Jvm.Cond.code ({ cls := "java/lang/Object", name := "<init>", desc := "()V" } : Jvm.MethodName) object_method_1_code (1 : Nat) (Option.none : Option Jvm.ClassFile.FieldType)).before args0 about1 = true := code_word (m := ⟨0, 0⟩) (meth := k0m0) (c := k0c0) (by decide +kernel) rfl rfl rfl (by decide +kernel)
set_option maxRecDepth 65536 in
theorem w_c4 : (Jvm.Cond.code ({ cls := "com/example/kostyashki/kostyashki/tiles/Tile", name := "isDouble", desc := "()Z" } : Jvm.MethodName) prog_59_method_4_code (1 : Nat) (Option.some Jvm.ClassFile.FieldType.boolean)).before args0 about1 = true := code_word (m := ⟨3, 1⟩) (meth := k3m1) (c := k3c1) (by decide +kernel) rfl rfl rfl (by decide +kernel)
def codes1 : List Jvm.Cond := [Jvm.Cond.code x code maxLocals ret, Jvm.Cond.code ({ cls := "com/example/kostyashki/kostyashki/tiles/Tile", name := "<init>", desc := "(II)V" } : Jvm.MethodName) prog_59_method_1_code (4 : Nat) (Option.none : Option Jvm.ClassFile.FieldType), Jvm.Cond.code ({ cls := "java/lang/Record", name := "<init>", desc := "()V" } : Jvm.MethodName) jdk_30_method_1_code (1 : Nat) (Option.none : Option Jvm.ClassFile.FieldType), Jvm.Cond.code ({ cls := "java/lang/Object", name := "<init>", desc := "()V" } : Jvm.MethodName) object_method_1_code (1 : Nat) (Option.none : Option Jvm.ClassFile.FieldType), Jvm.Cond.code ({ cls := "com/example/kostyashki/kostyashki/tiles/Tile", name := "isDouble", desc := "()Z" } : Jvm.MethodName) prog_59_method_4_code (1 : Nat) (Option.some Jvm.ClassFile.FieldType.boolean)]
set_option maxRecDepth 65536 in
theorem codes_eq : words1.filter isCode = codes1 := rfl
theorem w_codes : ∀ c ∈ words1.filter isCode, c.before args0 about1 = true := by
  rw [codes_eq]
  intro c hc
  simp only [codes1, List.mem_cons, List.not_mem_nil, or_false] at hc
  rcases hc with rfl | rfl | rfl | rfl | rfl
  · exact w_c0
  · exact w_c1
  · exact w_c2
  · exact w_c3
  · exact w_c4
set_option maxRecDepth 65536 in
theorem w_t1 : (words1.take 24).all (fun c => isCode c || c.before args0 about1) = true := by decide +kernel
set_option maxRecDepth 65536 in
theorem w_t2 : (words1.drop 24).all (fun c => isCode c || c.before args0 about1) = true := by decide +kernel
theorem w_tables : (allAtoms (Jvm.Cond.code x code maxLocals ret :: tables_1)).before args0 about1 = true := by
  rw [allAtoms_all]
  show words1.all (fun c => c.before args0 about1) = true
  refine all_split ?_ w_codes
  rw [← List.take_append_drop 24 words1, List.all_append, w_t1, w_t2]
  rfl
set_option maxRecDepth 65536 in
theorem w_case : (Jvm.Cond.and given_1 narrow_1).before args0 about1 = true := by decide +kernel
theorem w_applies : (headSpec (Jvm.Cond.code x code maxLocals ret :: tables_1) room_1).applies x e0.platform about1 = true :=
  (Spec.applies_iff w_frames).mpr ⟨w_running, w_runnable, w_alone, w_named, w_hears, w_ripe, w_room, w_tables⟩
theorem atStart : AtStart classFile x code maxLocals ret World_1 tables_1 room_1 Calls_1 rest_1 Pre_1 launch0 p0 e0 about1 theMethod args0 below0 :=
  ⟨lists_1, trivial, launch0.admits_env _ _ _, launch0.least_env, fairChoices_fair.cas, fairChoices_fair.clock, w_frames, w_args, w_heap, w_applies, trivial, trivial, w_case⟩
end start1
theorem witness_1 : WitnessClaimed_1 := ⟨start1.p0, start1.e0, start1.about1, start1.theMethod, start1.args0, start1.below0, start1.atStart⟩
end Jvm.Pilot.@@N@@
