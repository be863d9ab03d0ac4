import JvmDerived
import JvmDerived.Pilot.@@N@@Statement
import JvmDerived.Pilot.@@N@@Code
set_option linter.unusedVariables false
set_option linter.unusedSimpArgs false
namespace Jvm.Pilot.@@N@@
open Jvm Jvm.ClassFile Sem Op Lib Jvm.Free Jvm.Stand Jvm.LawKit Jvm.RoadKit Bundle Jvm.Pilot.@@N@@.Jvm.D
section Own
variable {p : Program} {l : Launch} {e : Env} {R : Room} {s : State} {m : MethodId} {args : Array Value} {below : List Frame} {meth : Method} {c : Code} {T T' : State} {locs : List Loc} {cells slots : Nat} {QQ : Option Value → Heap → List Loc → Prop} {kc ks : Nat} {f f' : JFrame}
/-- from here the run comes to the method's return, with what QQ says -/
def own_Goes (p : Program) (e : Env) (below : List Frame) (s : State) (QQ : Option Value → Heap → List Loc → Prop) (kc ks : Nat) (T : State) (f : JFrame) : Prop :=
  ∃ s₂ o, Steps p.tables e below (T.setTop f) s₂ ∧ s₂.status = .running ∧ Ended s₂ below o ∧ ∃ v L, o = .returned v ∧ QQ v s₂.heap L ∧ FrameEnd s o s₂ L kc ks
theorem own_step (st : ∀ target, Steps p.tables e below (T'.setTop f') target → Steps p.tables e below (T.setTop f) target) (h : own_Goes p e below s QQ kc ks T' f') : own_Goes p e below s QQ kc ks T f := by
  obtain ⟨s₂, o, h1, r⟩ := h
  exact ⟨s₂, o, st _ h1, r⟩
theorem own_jump (st : Steps p.tables e below (T.setTop f) (T'.setTop f')) (h : own_Goes p e below s QQ kc ks T' f') : own_Goes p e below s QQ kc ks T f := by
  obtain ⟨s₂, o, h1, r⟩ := h
  exact ⟨s₂, o, st.trans h1, r⟩
theorem own_out {v : Option Value} (X : Stand p l e R s m args below meth c T locs cells slots) (hlk : meth.locks = false) (hv : meth.sig.returnType = none → v = none)
    (st : ∀ fs, (∀ (f : JFrame) (acts : List Action), f.method = m → f.locked = none → f.entered = [] → (doReturn e (T.setTop f) acts v).1 = T.setFrames fs) → Steps p.tables e below (T.setTop f) (T.setFrames fs)) (hc : cells ≤ kc) (hs : slots ≤ ks) (hq : QQ v T.heap locs) : own_Goes p e below s QQ kc ks T f := by
  obtain ⟨fs, hr, hrun, hended, hW, hsame⟩ := X.leave (v := v) hv hlk
  exact ⟨_, _, st fs hr, hrun, hended, v, locs, rfl, hq, ⟨_, rfl⟩, hW, hsame.mono hc hs⟩
theorem own_staKeep {Z : State} {h h' : Heap} {C n d : String} {v : Value} {ws : List Addr} (F : Sta Z h C n d v) (K : Keep h h' ws) (q : ∀ x ∈ ws, ∃ cell : Cell, h[x]? = some cell ∧ cell.vm.isStatics = false) : Sta Z h' C n d v := by
  obtain ⟨cf, i, k, f, st, cell, h1, h2, h3, h4, h5, h6, h7⟩ := F
  refine ⟨cf, i, k, f, st, cell, h1, h2, h3, h4, K.2.1 st cell h5 (fun z => ?_), h6, h7⟩
  obtain ⟨c', g1, g2⟩ := q st z
  rw [h5] at g1
  cases g1
  rw [h6] at g2
  cases g2
theorem own_exaNS {Z : State} {h : Heap} {a : Addr} {C : String} (F : Exa Z h a C) : ∃ cell : Cell, h[a]? = some cell ∧ cell.vm.isStatics = false := by
  obtain ⟨cell, k, h1, -, -, h4, -⟩ := F
  exact ⟨cell, h1, h4⟩
end Own
theorem d2_0 : decode jdk_30_method_1_code 0 = .ok (.aload_n 0, 1) := by decide +kernel
theorem d2_1 : decode jdk_30_method_1_code 1 = .ok (.invokespecial 1, 3) := by decide +kernel
theorem d2_4 : decode jdk_30_method_1_code 4 = .ok (.return_, 1) := by decide +kernel
theorem pn_0 : plainName "java/lang/Record" = true := by first | (simp [plainName, overriddenIn]; done) | decide +kernel
theorem ef_2 (m : MethodId) (x0 : Addr) : entryFrame m #[(.ref x0)] 1 = mkF m 0 #[.val (.ref x0)] [] := by first | (simp [entryFrame, mkF, argsToLocals, Value.category]; done) | rfl
def Q2 (Z : State) (a1 : Addr) (h0 : Heap) (n0 : Nat) (v : Option Value) (h : Heap) (L : List Loc) : Prop := v = none ∧ L = [] ∧ h = h0
abbrev R2 : Room := { frames := 1, cells := 0, slots := 0, locals := 12 }
set_option maxRecDepth 65536 in
set_option maxHeartbeats 40000000 in
theorem rm2 (l : Launch) (Z : State) (a0 : Array Value) (hw : ∀ d ∈ tables_1, d.before a0 Z = true) (ws : List Jvm.Cond) (a1 : Addr) (h0 : Heap) (n0 : Nat) (Z0 : n0 ≤ h0.size)  :
    MetFree l (⟨"java/lang/Record", "<init>", "()V"⟩ : MethodName) (head1 (Jvm.Cond.code (⟨"java/lang/Record", "<init>", "()V"⟩ : MethodName) jdk_30_method_1_code 1 none :: ws) R2) (fun a U => a = #[(.ref a1)] ∧ Z.Warmed39 U.vm ∧ U.heap = h0) (fun _ _ _ _ _ => True) (fun _ U o U' => ∃ v L, o = .returned v ∧ Q2 Z a1 h0 n0 v U'.heap L ∧ FrameEnd U o U' L R2.cells R2.slots) := by
  refine MetFree.of_bodySF (plainFor_of_name pn_0) hisR ?_
  intro p e s m args below meth c s₁ Bd hml0 hP hK
  obtain ⟨rfl, hZ, hh⟩ := hP
  have hx := Bd.exec
  have hby := Bd.bytes
  have hlk : meth.locks = false := BodyLoose.notSynchronized Bd
  have hml : c.maxLocals = 1 := hml0
  have hown : s.vm.findClass "java/lang/Record" = some m.cls := findClass_of_methodNamed Bd.named
  have hnm := (name_of_methodNamed Bd.named Bd.method).1
  have X0 : Stand p l e R2 s m #[(.ref a1)] below meth c s₁ [] 0 0 := Stand.of_body Bd
  have e0 : s₁.heap = h0 := by rw [← hh, Bd.state]; rfl
  have N0 := Fr.nil n0
  show own_Goes p e below s (Q2 Z a1 h0 n0) R2.cells R2.slots s₁ (entryFrame m #[(.ref a1)] 1)
  rw [ef_2 m a1]
  refine own_step (f' := (mkF m 1 #[.val (.ref a1)] [(.ref a1)])) (fun _ k => XS.aloadN X0.here hx rfl (hb hby d2_0) rfl rfl k) ?_
  obtain ⟨T1, X1, e1, st1⟩ := initO X0 hx hZ hown (hw _ (List.mem_of_getElem? (i := 12) rfl)) (hw _ (List.mem_of_getElem? (i := 13) rfl)) (hw _ (List.mem_of_getElem? (i := 14) rfl)) e0 (g := (mkF m 1 #[.val (.ref a1)] [(.ref a1)])) rfl (by rw [hml]; rfl) rfl (hb hby d2_1) (by decide) (W := 0) (by show 2 * 0 + _ ≤ _; exact Nat.le_of_eq rfl) (by decide)
  refine own_step (f' := (mkF m 4 #[.val (.ref a1)] [])) st1 ?_
  refine own_out (v := none) X1 hlk (fun _ => rfl) (fun fs hr => X1.returnOut hx Bd.returns (hb hby d2_4) hr) (by decide) (by decide) ?_
  rw [e1]
  exact ⟨rfl, rfl, rfl⟩
def own_lo (x y : Int32) : Int32 := if y < x then y else x
def own_hi (x y : Int32) : Int32 := if y < x then x else y
theorem pd_0 : parseMethodDescriptor "()V" = some ⟨[], none⟩ := by decide +kernel
theorem d1_0 : decode prog_60_method_1_code 0 = .ok (.aload_n 0, 1) := by decide +kernel
theorem d1_1 : decode prog_60_method_1_code 1 = .ok (.invokespecial 1, 3) := by decide +kernel
theorem d1_4 : decode prog_60_method_1_code 4 = .ok (.iload_n 1, 1) := by decide +kernel
theorem d1_5 : decode prog_60_method_1_code 5 = .ok (.ifCond .lt 19, 3) := by decide +kernel
theorem d1_8 : decode prog_60_method_1_code 8 = .ok (.iload_n 1, 1) := by decide +kernel
theorem d1_9 : decode prog_60_method_1_code 9 = .ok (.bipush 6, 2) := by decide +kernel
theorem d1_11 : decode prog_60_method_1_code 11 = .ok (.if_icmp .gt 13, 3) := by decide +kernel
theorem d1_14 : decode prog_60_method_1_code 14 = .ok (.iload_n 2, 1) := by decide +kernel
theorem d1_15 : decode prog_60_method_1_code 15 = .ok (.ifCond .lt 9, 3) := by decide +kernel
theorem d1_18 : decode prog_60_method_1_code 18 = .ok (.iload_n 2, 1) := by decide +kernel
theorem d1_19 : decode prog_60_method_1_code 19 = .ok (.bipush 6, 2) := by decide +kernel
theorem d1_21 : decode prog_60_method_1_code 21 = .ok (.if_icmp .le 18, 3) := by decide +kernel
theorem d1_39 : decode prog_60_method_1_code 39 = .ok (.iload_n 1, 1) := by decide +kernel
theorem d1_40 : decode prog_60_method_1_code 40 = .ok (.iload_n 2, 1) := by decide +kernel
theorem d1_41 : decode prog_60_method_1_code 41 = .ok (.if_icmp .le 9, 3) := by decide +kernel
theorem d1_44 : decode prog_60_method_1_code 44 = .ok (.iload_n 1, 1) := by decide +kernel
theorem d1_45 : decode prog_60_method_1_code 45 = .ok (.istore_n 3, 1) := by decide +kernel
theorem d1_46 : decode prog_60_method_1_code 46 = .ok (.iload_n 2, 1) := by decide +kernel
theorem d1_47 : decode prog_60_method_1_code 47 = .ok (.istore_n 1, 1) := by decide +kernel
theorem d1_48 : decode prog_60_method_1_code 48 = .ok (.iload_n 3, 1) := by decide +kernel
theorem d1_49 : decode prog_60_method_1_code 49 = .ok (.istore_n 2, 1) := by decide +kernel
theorem d1_50 : decode prog_60_method_1_code 50 = .ok (.aload_n 0, 1) := by decide +kernel
theorem d1_51 : decode prog_60_method_1_code 51 = .ok (.iload_n 1, 1) := by decide +kernel
theorem d1_52 : decode prog_60_method_1_code 52 = .ok (.putfield 18, 3) := by decide +kernel
theorem d1_55 : decode prog_60_method_1_code 55 = .ok (.aload_n 0, 1) := by decide +kernel
theorem d1_56 : decode prog_60_method_1_code 56 = .ok (.iload_n 2, 1) := by decide +kernel
theorem d1_57 : decode prog_60_method_1_code 57 = .ok (.putfield 22, 3) := by decide +kernel
theorem d1_60 : decode prog_60_method_1_code 60 = .ok (.return_, 1) := by decide +kernel
theorem pn_1 : plainName "com/example/kostyashki/kostyashki/tiles/Tile" = true := by first | (simp [plainName, overriddenIn]; done) | decide +kernel
theorem ef_1 (m : MethodId) (x0 : Addr) (x1 : Int32) (x2 : Int32) : entryFrame m #[(.ref x0), (.int x1), (.int x2)] 4 = mkF m 0 #[.val (.ref x0), .val (.int x1), .val (.int x2), .unset] [] := by first | (simp [entryFrame, mkF, argsToLocals, Value.category]; done) | rfl
def Q1 (Z : State) (a1 : Addr) (p2 : Int32) (p3 : Int32) (u1 : Value) (u2 : Value) (h0 : Heap) (n0 : Nat) (v : Option Value) (h : Heap) (L : List Loc) : Prop := v = none ∧ Fr n0 L ∧ Keep h0 h [a1] ∧ Exa Z h a1 "com/example/kostyashki/kostyashki/tiles/Tile" ∧ Fld Z h a1 "com/example/kostyashki/kostyashki/tiles/Tile" "low" "I" (.int (own_lo p2 p3)) ∧ Fld Z h a1 "com/example/kostyashki/kostyashki/tiles/Tile" "high" "I" (.int (own_hi p2 p3))
abbrev R1 : Room := { frames := 2, cells := 0, slots := 0, locals := 24 }
set_option maxRecDepth 65536 in
set_option maxHeartbeats 40000000 in
theorem rm1 (l : Launch) (Z : State) (a0 : Array Value) (hw : ∀ d ∈ tables_1, d.before a0 Z = true) (ws : List Jvm.Cond) (a1 : Addr) (p2 : Int32) (p3 : Int32) (u1 : Value) (u2 : Value) (h0 : Heap) (n0 : Nat) (Z0 : n0 ≤ h0.size) (E_a1 : Exa Z h0 a1 "com/example/kostyashki/kostyashki/tiles/Tile") (F_low_a1 : Fld Z h0 a1 "com/example/kostyashki/kostyashki/tiles/Tile" "low" "I" u1) (F_high_a1 : Fld Z h0 a1 "com/example/kostyashki/kostyashki/tiles/Tile" "high" "I" u2) (g_a1 : n0 ≤ a1) (hp1 : ¬ (p2 < (0 : Int32))) (hp2 : ¬ ((6 : Int32) < p2)) (hp3 : ¬ (p3 < (0 : Int32))) (hp4 : ¬ ((6 : Int32) < p3)) :
    MetFree l (⟨"com/example/kostyashki/kostyashki/tiles/Tile", "<init>", "(II)V"⟩ : MethodName) (head1 (Jvm.Cond.code (⟨"com/example/kostyashki/kostyashki/tiles/Tile", "<init>", "(II)V"⟩ : MethodName) prog_60_method_1_code 4 none :: ws) R1) (fun a U => a = #[(.ref a1), (.int p2), (.int p3)] ∧ Z.Warmed39 U.vm ∧ U.heap = h0) (fun _ _ _ _ _ => True) (fun _ U o U' => ∃ v L, o = .returned v ∧ Q1 Z a1 p2 p3 u1 u2 h0 n0 v U'.heap L ∧ FrameEnd U o U' L R1.cells R1.slots) := by
  refine MetFree.of_bodySF (plainFor_of_name pn_1) hisR ?_
  intro p e s m args below meth c s₁ Bd hml0 hP hK
  obtain ⟨rfl, hZ, hh⟩ := hP
  have hx := Bd.exec
  have hby := Bd.bytes
  have hlk : meth.locks = false := BodyLoose.notSynchronized Bd
  have hml : c.maxLocals = 4 := hml0
  have hown : s.vm.findClass "com/example/kostyashki/kostyashki/tiles/Tile" = some m.cls := findClass_of_methodNamed Bd.named
  have hnm := (name_of_methodNamed Bd.named Bd.method).1
  have X0 : Stand p l e R1 s m #[(.ref a1), (.int p2), (.int p3)] below meth c s₁ [] 0 0 := Stand.of_body Bd
  have e0 : s₁.heap = h0 := by rw [← hh, Bd.state]; rfl
  have N0 := Fr.nil n0
  show own_Goes p e below s (Q1 Z a1 p2 p3 u1 u2 h0 n0) R1.cells R1.slots s₁ (entryFrame m #[(.ref a1), (.int p2), (.int p3)] 4)
  rw [ef_1 m a1 p2 p3]
  refine own_step (f' := (mkF m 1 #[.val (.ref a1), .val (.int p2), .val (.int p3), .unset] [(.ref a1)])) (fun _ k => XS.aloadN X0.here hx rfl (hb hby d1_0) rfl rfl k) ?_
  have Zq1 : n0 ≤ h0.size := Z0
  obtain ⟨_, _, ⟨T1, L1, k1, n1⟩, -, X1, ⟨Lc1, hQ1, l1, y1, z1⟩, st1⟩ := X0.specialBack hx (y := (⟨"java/lang/Record", "<init>", "()V"⟩ : MethodName)) rfl hown (mvT hZ (hw _ (List.mem_of_getElem? (i := 7) rfl))) (mvT hZ (hw _ (List.mem_of_getElem? (i := 8) rfl))) (mvT hZ (hw _ (List.mem_of_getElem? (i := 11) rfl))) (by decide) (backOf (W := 0) (rm2 l Z a0 hw [] a1 h0 n0 Zq1 ) hZ (hw _ (List.mem_of_getElem? (i := 11) rfl)) (hw _ (List.mem_of_getElem? (i := 10) rfl)) (by decide) (by decide)) (g := (mkF m 1 #[.val (.ref a1), .val (.int p2), .val (.int p3), .unset] [(.ref a1)])) rfl (by rw [hml]; rfl) (Steps.refl _) (a := a1) (argsL := []) (rest := []) (lenOf pd_0 rfl) rfl (by show 2 * 0 + _ ≤ _; exact Nat.le_of_eq rfl) (hb hby d1_1) (fun _ _ => ⟨rfl, e0, (by decide : 0 + 0 ≤ _), (by decide : 0 + 0 ≤ _)⟩)
  dsimp only [Pt.U, Pt.locs, Pt.cells, Pt.slots] at X1 l1 y1 z1 st1 hQ1
  subst l1 y1 z1
  obtain ⟨rfl, rfl, e1⟩ := hQ1
  try rw [List.append_nil] at X1
  refine own_jump (f' := (mkF m 4 #[.val (.ref a1), .val (.int p2), .val (.int p3), .unset] [])) st1 ?_
  refine own_step (f' := (mkF m 5 #[.val (.ref a1), .val (.int p2), .val (.int p3), .unset] [(.int p2)])) (fun _ k => XS.iloadN X1.here hx rfl (hb hby d1_4) rfl k) ?_
  have hf5_2 : ¬ (p2 < (0 : Int32)) := hp1
  refine own_step (f' := (mkF m 8 #[.val (.ref a1), .val (.int p2), .val (.int p3), .unset] [])) (fun _ k => XS.ifNo X1.here hx rfl (hb hby d1_5) rfl ((if0 _ _).trans (flt hf5_2).1) k) ?_
  refine own_step (f' := (mkF m 9 #[.val (.ref a1), .val (.int p2), .val (.int p3), .unset] [(.int p2)])) (fun _ k => XS.iloadN X1.here hx rfl (hb hby d1_8) rfl k) ?_
  refine own_step (f' := (mkF m 11 #[.val (.ref a1), .val (.int p2), .val (.int p3), .unset] [(.int (6 : Int32)), (.int p2)])) (fun _ k => XS.bipush X1.here hx rfl (hb hby d1_9) k) ?_
  have hf11_3 : ¬ ((6 : Int32) < p2) := hp2
  refine own_step (f' := (mkF m 14 #[.val (.ref a1), .val (.int p2), .val (.int p3), .unset] [])) (fun _ k => XS.icmpNo X1.here hx rfl (hb hby d1_11) rfl (flt hf11_3).2.2.1 k) ?_
  refine own_step (f' := (mkF m 15 #[.val (.ref a1), .val (.int p2), .val (.int p3), .unset] [(.int p3)])) (fun _ k => XS.iloadN X1.here hx rfl (hb hby d1_14) rfl k) ?_
  have hf15_4 : ¬ (p3 < (0 : Int32)) := hp3
  refine own_step (f' := (mkF m 18 #[.val (.ref a1), .val (.int p2), .val (.int p3), .unset] [])) (fun _ k => XS.ifNo X1.here hx rfl (hb hby d1_15) rfl ((if0 _ _).trans (flt hf15_4).1) k) ?_
  refine own_step (f' := (mkF m 19 #[.val (.ref a1), .val (.int p2), .val (.int p3), .unset] [(.int p3)])) (fun _ k => XS.iloadN X1.here hx rfl (hb hby d1_18) rfl k) ?_
  refine own_step (f' := (mkF m 21 #[.val (.ref a1), .val (.int p2), .val (.int p3), .unset] [(.int (6 : Int32)), (.int p3)])) (fun _ k => XS.bipush X1.here hx rfl (hb hby d1_19) k) ?_
  have hf21_5 : ¬ ((6 : Int32) < p3) := hp4
  refine own_step (f' := (mkF m 39 #[.val (.ref a1), .val (.int p2), .val (.int p3), .unset] [])) (fun _ k => XS.icmpYes X1.here hx rfl (pc0 := 21) (pc' := 39) rfl (hb hby d1_21) rfl (flt hf21_5).2.2.2 (by decide) (by decide) k) ?_
  refine own_step (f' := (mkF m 40 #[.val (.ref a1), .val (.int p2), .val (.int p3), .unset] [(.int p2)])) (fun _ k => XS.iloadN X1.here hx rfl (hb hby d1_39) rfl k) ?_
  refine own_step (f' := (mkF m 41 #[.val (.ref a1), .val (.int p2), .val (.int p3), .unset] [(.int p3), (.int p2)])) (fun _ k => XS.iloadN X1.here hx rfl (hb hby d1_40) rfl k) ?_
  have J41_7 : ∀ (T41_7 : State) (v41_7_l1 : Int32) (v41_7_l2 : Int32) (y41_7_l3 : Slot), Stand p l e R1 s m #[(.ref a1), (.int p2), (.int p3)] below meth c T41_7 [] 0 0 → T41_7.heap = h0 → v41_7_l1 = (if p3 < p2 then p3 else p2) → v41_7_l2 = (if p3 < p2 then p2 else p3) → own_Goes p e below s (Q1 Z a1 p2 p3 u1 u2 h0 n0) R1.cells R1.slots T41_7 (mkF m 50 #[.val (.ref a1), .val (.int v41_7_l1), .val (.int v41_7_l2), y41_7_l3] []) := by
    intro T41_7 v41_7_l1 v41_7_l2 y41_7_l3 X41_7 e41_7 hv41_7_0 hv41_7_1
    refine own_step (f' := (mkF m 51 #[.val (.ref a1), .val (.int v41_7_l1), .val (.int v41_7_l2), y41_7_l3] [(.ref a1)])) (fun _ k => XS.aloadN X41_7.here hx rfl (hb hby d1_50) rfl rfl k) ?_
    refine own_step (f' := (mkF m 52 #[.val (.ref a1), .val (.int v41_7_l1), .val (.int v41_7_l2), y41_7_l3] [(.int v41_7_l1), (.ref a1)])) (fun _ k => XS.iloadN X41_7.here hx rfl (hb hby d1_51) rfl k) ?_
    obtain ⟨T8, h8, X8, e8, W8, st8⟩ := putF X41_7 hx hZ hown (host := "") (Or.inl (hw _ (List.mem_of_getElem? (i := 15) rfl))) Via.refl e41_7 F_low_a1 E_a1 (Or.inr ⟨(hw _ (List.mem_of_getElem? (i := 16) rfl)), rfl, hnm⟩) (hw _ (List.mem_of_getElem? (i := 2) rfl)) (ty := .int) (by decide) rfl rfl (g := (mkF m 52 #[.val (.ref a1), .val (.int v41_7_l1), .val (.int v41_7_l2), y41_7_l3] [(.int v41_7_l1), (.ref a1)])) rfl rfl (hb hby d1_52)
    obtain ⟨Lo8, X8, N8⟩ : ∃ K, Stand p l e R1 s m #[(.ref a1), (.int p2), (.int p3)] below meth c T8 K 0 0 ∧ Fr n0 K := ⟨_, X8, (Fr.snoc X8 N0 g_a1)⟩
    refine own_step (f' := (mkF m 55 #[.val (.ref a1), .val (.int v41_7_l1), .val (.int v41_7_l2), y41_7_l3] [])) st8 ?_
    refine own_step (f' := (mkF m 56 #[.val (.ref a1), .val (.int v41_7_l1), .val (.int v41_7_l2), y41_7_l3] [(.ref a1)])) (fun _ k => XS.aloadN X8.here hx rfl (hb hby d1_55) rfl rfl k) ?_
    refine own_step (f' := (mkF m 57 #[.val (.ref a1), .val (.int v41_7_l1), .val (.int v41_7_l2), y41_7_l3] [(.int v41_7_l2), (.ref a1)])) (fun _ k => XS.iloadN X8.here hx rfl (hb hby d1_56) rfl k) ?_
    obtain ⟨T9, h9, X9, e9, W9, st9⟩ := putF X8 hx hZ hown (host := "") (Or.inl (hw _ (List.mem_of_getElem? (i := 17) rfl))) Via.refl e8 (F_high_a1.other W8 (Or.inr (slot_ne (Or.inr (hw _ (List.mem_of_getElem? (i := 18) rfl))) (Or.inr (hw _ (List.mem_of_getElem? (i := 16) rfl))) (by decide) (t := .int) (t' := .int) (by decide) (by decide)))) (E_a1.wr W8) (Or.inr ⟨(hw _ (List.mem_of_getElem? (i := 18) rfl)), rfl, hnm⟩) (hw _ (List.mem_of_getElem? (i := 2) rfl)) (ty := .int) (by decide) rfl rfl (g := (mkF m 57 #[.val (.ref a1), .val (.int v41_7_l1), .val (.int v41_7_l2), y41_7_l3] [(.int v41_7_l2), (.ref a1)])) rfl rfl (hb hby d1_57)
    obtain ⟨Lo9, X9, N9⟩ : ∃ K, Stand p l e R1 s m #[(.ref a1), (.int p2), (.int p3)] below meth c T9 K 0 0 ∧ Fr n0 K := ⟨_, X9, (Fr.snoc X9 N8 g_a1)⟩
    refine own_step (f' := (mkF m 60 #[.val (.ref a1), .val (.int v41_7_l1), .val (.int v41_7_l2), y41_7_l3] [])) st9 ?_
    refine own_out (v := none) X9 hlk (fun _ => rfl) (fun fs hr => X9.returnOut hx Bd.returns (hb hby d1_60) hr) (by decide) (by decide) ?_
    subst hv41_7_0 hv41_7_1
    rw [e9]
    exact ⟨rfl, N9, (((Keep.refl h0 [a1]).wr W8 (Or.inl (List.mem_of_getElem? (i := 0) rfl))).wr W9 (Or.inl (List.mem_of_getElem? (i := 0) rfl))), ((E_a1.wr W8).wr W9), ((F_low_a1.same W8).other W9 (Or.inr (slot_ne (Or.inr (hw _ (List.mem_of_getElem? (i := 16) rfl))) (Or.inr (hw _ (List.mem_of_getElem? (i := 18) rfl))) (by decide) (t := .int) (t' := .int) (by decide) (by decide)))), ((F_high_a1.other W8 (Or.inr (slot_ne (Or.inr (hw _ (List.mem_of_getElem? (i := 18) rfl))) (Or.inr (hw _ (List.mem_of_getElem? (i := 16) rfl))) (by decide) (t := .int) (t' := .int) (by decide) (by decide)))).same W9)⟩
  by_cases hc41_6 : p3 < p2
  · refine own_step (f' := (mkF m 44 #[.val (.ref a1), .val (.int p2), .val (.int p3), .unset] [])) (fun _ k => XS.icmpNo X1.here hx rfl (hb hby d1_41) rfl (tlt hc41_6).2.2.2 k) ?_
    refine own_step (f' := (mkF m 45 #[.val (.ref a1), .val (.int p2), .val (.int p3), .unset] [(.int p2)])) (fun _ k => XS.iloadN X1.here hx rfl (hb hby d1_44) rfl k) ?_
    refine own_step (f' := (mkF m 46 #[.val (.ref a1), .val (.int p2), .val (.int p3), .val (.int p2)] [])) (fun _ k => XS.istoreN X1.here hx rfl (hb hby d1_45) rfl (l' := #[.val (.ref a1), .val (.int p2), .val (.int p3), .val (.int p2)]) rfl k) ?_
    refine own_step (f' := (mkF m 47 #[.val (.ref a1), .val (.int p2), .val (.int p3), .val (.int p2)] [(.int p3)])) (fun _ k => XS.iloadN X1.here hx rfl (hb hby d1_46) rfl k) ?_
    refine own_step (f' := (mkF m 48 #[.val (.ref a1), .val (.int p3), .val (.int p3), .val (.int p2)] [])) (fun _ k => XS.istoreN X1.here hx rfl (hb hby d1_47) rfl (l' := #[.val (.ref a1), .val (.int p3), .val (.int p3), .val (.int p2)]) rfl k) ?_
    refine own_step (f' := (mkF m 49 #[.val (.ref a1), .val (.int p3), .val (.int p3), .val (.int p2)] [(.int p2)])) (fun _ k => XS.iloadN X1.here hx rfl (hb hby d1_48) rfl k) ?_
    refine own_step (f' := (mkF m 50 #[.val (.ref a1), .val (.int p3), .val (.int p2), .val (.int p2)] [])) (fun _ k => XS.istoreN X1.here hx rfl (hb hby d1_49) rfl (l' := #[.val (.ref a1), .val (.int p3), .val (.int p2), .val (.int p2)]) rfl k) ?_
    exact J41_7 _ p3 p2 (.val (.int p2)) X1 e1 (by rw [if_pos hc41_6]) (by rw [if_pos hc41_6])
  · refine own_step (f' := (mkF m 50 #[.val (.ref a1), .val (.int p2), .val (.int p3), .unset] [])) (fun _ k => XS.icmpYes X1.here hx rfl (pc0 := 41) (pc' := 50) rfl (hb hby d1_41) rfl (flt hc41_6).2.2.2 (by decide) (by decide) k) ?_
    exact J41_7 _ p2 p3 (.unset) X1 e1 (by rw [if_neg hc41_6]) (by rw [if_neg hc41_6])
theorem own_m7 (x : Int32) : ¬ ((x &&& (2147483647 : Int32)) % (7 : Int32) < (0 : Int32)) ∧ ¬ ((6 : Int32) < (x &&& (2147483647 : Int32)) % (7 : Int32)) := by
  have h1 := c_mask x 2147483647 31 (by decide) (by decide)
  have h2 := (c_irem (x &&& 2147483647) 7 7 (by decide)).1
  simp only [Int32.lt_iff_toInt_lt]
  have e0 : (0 : Int32).toInt = 0 := by decide
  have e6 : (6 : Int32).toInt = 6 := by decide
  omega
theorem d5_0 : decode prog_60_method_11_code 0 = .ok (.aload_n 0, 1) := by decide +kernel
theorem d5_1 : decode prog_60_method_11_code 1 = .ok (.getfield 18, 3) := by decide +kernel
theorem d5_4 : decode prog_60_method_11_code 4 = .ok (.ireturn, 1) := by decide +kernel
theorem ef_5 (m : MethodId) (x0 : Addr) : entryFrame m #[(.ref x0)] 1 = mkF m 0 #[.val (.ref x0)] [] := by first | (simp [entryFrame, mkF, argsToLocals, Value.category]; done) | rfl
def Q5 (Z : State) (a1 : Addr) (q1 : Int32) (h0 : Heap) (n0 : Nat) (v : Option Value) (h : Heap) (L : List Loc) : Prop := v = some (.int q1) ∧ L = [] ∧ h = h0
abbrev R5 : Room := { frames := 0, cells := 0, slots := 0, locals := 0 }
set_option maxRecDepth 65536 in
set_option maxHeartbeats 40000000 in
theorem rm5 (l : Launch) (Z : State) (a0 : Array Value) (hw : ∀ d ∈ tables_1, d.before a0 Z = true) (ws : List Jvm.Cond) (a1 : Addr) (q1 : Int32) (h0 : Heap) (n0 : Nat) (Z0 : n0 ≤ h0.size) (F_low_a1 : Fld Z h0 a1 "com/example/kostyashki/kostyashki/tiles/Tile" "low" "I" (.int q1)) :
    MetFree l (⟨"com/example/kostyashki/kostyashki/tiles/Tile", "low", "()I"⟩ : MethodName) (head1 (Jvm.Cond.code (⟨"com/example/kostyashki/kostyashki/tiles/Tile", "low", "()I"⟩ : MethodName) prog_60_method_11_code 1 (some .int) :: ws) R5) (fun a U => a = #[(.ref a1)] ∧ Z.Warmed39 U.vm ∧ U.heap = h0) (fun _ _ _ _ _ => True) (fun _ U o U' => ∃ v L, o = .returned v ∧ Q5 Z a1 q1 h0 n0 v U'.heap L ∧ FrameEnd U o U' L R5.cells R5.slots) := by
  refine MetFree.of_bodySF (plainFor_of_name pn_1) hisR ?_
  intro p e s m args below meth c s₁ Bd hml0 hP hK
  obtain ⟨rfl, hZ, hh⟩ := hP
  have hx := Bd.exec
  have hby := Bd.bytes
  have hlk : meth.locks = false := BodyLoose.notSynchronized Bd
  have hml : c.maxLocals = 1 := hml0
  have hown : s.vm.findClass "com/example/kostyashki/kostyashki/tiles/Tile" = some m.cls := findClass_of_methodNamed Bd.named
  have hnm := (name_of_methodNamed Bd.named Bd.method).1
  have X0 : Stand p l e R5 s m #[(.ref a1)] below meth c s₁ [] 0 0 := Stand.of_body Bd
  have e0 : s₁.heap = h0 := by rw [← hh, Bd.state]; rfl
  have N0 := Fr.nil n0
  show own_Goes p e below s (Q5 Z a1 q1 h0 n0) R5.cells R5.slots s₁ (entryFrame m #[(.ref a1)] 1)
  rw [ef_5 m a1]
  refine own_step (f' := (mkF m 1 #[.val (.ref a1)] [(.ref a1)])) (fun _ k => XS.aloadN X0.here hx rfl (hb hby d5_0) rfl rfl k) ?_
  obtain ⟨T1, X1, e1, st1⟩ := getF X0 hx hZ hown (host := "") (Or.inl (hw _ (List.mem_of_getElem? (i := 15) rfl))) Via.refl e0 F_low_a1 (g := (mkF m 1 #[.val (.ref a1)] [(.ref a1)])) rfl rfl (hb hby d5_1)
  refine own_step (f' := (mkF m 4 #[.val (.ref a1)] [(.int q1)])) st1 ?_
  refine own_out (v := some (.int q1)) X1 hlk (fun h => by rw [Bd.returns] at h; cases h) (fun fs hr => retOut X1 hx Bd.returns rfl (Or.inl ⟨rfl, Or.inl rfl, _, rfl⟩) (hb hby d5_4) hr) (by decide) (by decide) ?_
  rw [e1]
  exact ⟨rfl, rfl, rfl⟩
theorem d6_0 : decode prog_60_method_12_code 0 = .ok (.aload_n 0, 1) := by decide +kernel
theorem d6_1 : decode prog_60_method_12_code 1 = .ok (.getfield 22, 3) := by decide +kernel
theorem d6_4 : decode prog_60_method_12_code 4 = .ok (.ireturn, 1) := by decide +kernel
theorem ef_6 (m : MethodId) (x0 : Addr) : entryFrame m #[(.ref x0)] 1 = mkF m 0 #[.val (.ref x0)] [] := by first | (simp [entryFrame, mkF, argsToLocals, Value.category]; done) | rfl
def Q6 (Z : State) (a1 : Addr) (q1 : Int32) (h0 : Heap) (n0 : Nat) (v : Option Value) (h : Heap) (L : List Loc) : Prop := v = some (.int q1) ∧ L = [] ∧ h = h0
abbrev R6 : Room := { frames := 0, cells := 0, slots := 0, locals := 0 }
set_option maxRecDepth 65536 in
set_option maxHeartbeats 40000000 in
theorem rm6 (l : Launch) (Z : State) (a0 : Array Value) (hw : ∀ d ∈ tables_1, d.before a0 Z = true) (ws : List Jvm.Cond) (a1 : Addr) (q1 : Int32) (h0 : Heap) (n0 : Nat) (Z0 : n0 ≤ h0.size) (F_high_a1 : Fld Z h0 a1 "com/example/kostyashki/kostyashki/tiles/Tile" "high" "I" (.int q1)) :
    MetFree l (⟨"com/example/kostyashki/kostyashki/tiles/Tile", "high", "()I"⟩ : MethodName) (head1 (Jvm.Cond.code (⟨"com/example/kostyashki/kostyashki/tiles/Tile", "high", "()I"⟩ : MethodName) prog_60_method_12_code 1 (some .int) :: ws) R6) (fun a U => a = #[(.ref a1)] ∧ Z.Warmed39 U.vm ∧ U.heap = h0) (fun _ _ _ _ _ => True) (fun _ U o U' => ∃ v L, o = .returned v ∧ Q6 Z a1 q1 h0 n0 v U'.heap L ∧ FrameEnd U o U' L R6.cells R6.slots) := by
  refine MetFree.of_bodySF (plainFor_of_name pn_1) hisR ?_
  intro p e s m args below meth c s₁ Bd hml0 hP hK
  obtain ⟨rfl, hZ, hh⟩ := hP
  have hx := Bd.exec
  have hby := Bd.bytes
  have hlk : meth.locks = false := BodyLoose.notSynchronized Bd
  have hml : c.maxLocals = 1 := hml0
  have hown : s.vm.findClass "com/example/kostyashki/kostyashki/tiles/Tile" = some m.cls := findClass_of_methodNamed Bd.named
  have hnm := (name_of_methodNamed Bd.named Bd.method).1
  have X0 : Stand p l e R6 s m #[(.ref a1)] below meth c s₁ [] 0 0 := Stand.of_body Bd
  have e0 : s₁.heap = h0 := by rw [← hh, Bd.state]; rfl
  have N0 := Fr.nil n0
  show own_Goes p e below s (Q6 Z a1 q1 h0 n0) R6.cells R6.slots s₁ (entryFrame m #[(.ref a1)] 1)
  rw [ef_6 m a1]
  refine own_step (f' := (mkF m 1 #[.val (.ref a1)] [(.ref a1)])) (fun _ k => XS.aloadN X0.here hx rfl (hb hby d6_0) rfl rfl k) ?_
  obtain ⟨T1, X1, e1, st1⟩ := getF X0 hx hZ hown (host := "") (Or.inl (hw _ (List.mem_of_getElem? (i := 17) rfl))) Via.refl e0 F_high_a1 (g := (mkF m 1 #[.val (.ref a1)] [(.ref a1)])) rfl rfl (hb hby d6_1)
  refine own_step (f' := (mkF m 4 #[.val (.ref a1)] [(.int q1)])) st1 ?_
  refine own_out (v := some (.int q1)) X1 hlk (fun h => by rw [Bd.returns] at h; cases h) (fun fs hr => retOut X1 hx Bd.returns rfl (Or.inl ⟨rfl, Or.inl rfl, _, rfl⟩) (hb hby d6_4) hr) (by decide) (by decide) ?_
  rw [e1]
  exact ⟨rfl, rfl, rfl⟩
def own_min (x y : Int32) : Int32 := if y < x then y else x
def own_max (x y : Int32) : Int32 := if x < y then y else x
theorem d8_0 : decode jdk_29_method_69_code 0 = .ok (.iload_n 0, 1) := by decide +kernel
theorem d8_1 : decode jdk_29_method_69_code 1 = .ok (.iload_n 1, 1) := by decide +kernel
theorem d8_2 : decode jdk_29_method_69_code 2 = .ok (.if_icmp .gt 7, 3) := by decide +kernel
theorem d8_5 : decode jdk_29_method_69_code 5 = .ok (.iload_n 0, 1) := by decide +kernel
theorem d8_6 : decode jdk_29_method_69_code 6 = .ok (.goto 4, 3) := by decide +kernel
theorem d8_9 : decode jdk_29_method_69_code 9 = .ok (.iload_n 1, 1) := by decide +kernel
theorem d8_10 : decode jdk_29_method_69_code 10 = .ok (.ireturn, 1) := by decide +kernel
theorem ef_8 (m : MethodId) (x0 : Int32) (x1 : Int32) : entryFrame m #[(.int x0), (.int x1)] 2 = mkF m 0 #[.val (.int x0), .val (.int x1)] [] := by first | (simp [entryFrame, mkF, argsToLocals, Value.category]; done) | rfl
def Q8 (Z : State) (p1 : Int32) (p2 : Int32) (h0 : Heap) (n0 : Nat) (v : Option Value) (h : Heap) (L : List Loc) : Prop := v = some (.int (own_min p1 p2)) ∧ L = [] ∧ h = h0
abbrev R8 : Room := { frames := 0, cells := 0, slots := 0, locals := 0 }
set_option maxRecDepth 65536 in
set_option maxHeartbeats 40000000 in
theorem rm8 (l : Launch) (Z : State) (a0 : Array Value) (hw : ∀ d ∈ tables_1, d.before a0 Z = true) (ws : List Jvm.Cond) (p1 : Int32) (p2 : Int32) (h0 : Heap) (n0 : Nat) (Z0 : n0 ≤ h0.size)  :
    MetFree l (⟨"java/lang/Math", "min", "(II)I"⟩ : MethodName) (head1 (Jvm.Cond.code (⟨"java/lang/Math", "min", "(II)I"⟩ : MethodName) jdk_29_method_69_code 2 (some .int) :: ws) R8) (fun a U => a = #[(.int p1), (.int p2)] ∧ Z.Warmed39 U.vm ∧ U.heap = h0) (fun _ _ _ _ _ => True) (fun _ U o U' => ∃ v L, o = .returned v ∧ Q8 Z p1 p2 h0 n0 v U'.heap L ∧ FrameEnd U o U' L R8.cells R8.slots) := by
  refine MetFree.of_bodySF (Jvm.Free.JP.mathPlain rfl (by decide +kernel)) hisR ?_
  intro p e s m args below meth c s₁ Bd hml0 hP hK
  obtain ⟨rfl, hZ, hh⟩ := hP
  have hx := Bd.exec
  have hby := Bd.bytes
  have hlk : meth.locks = false := BodyLoose.notSynchronized Bd
  have hml : c.maxLocals = 2 := hml0
  have hown : s.vm.findClass "java/lang/Math" = some m.cls := findClass_of_methodNamed Bd.named
  have hnm := (name_of_methodNamed Bd.named Bd.method).1
  have X0 : Stand p l e R8 s m #[(.int p1), (.int p2)] below meth c s₁ [] 0 0 := Stand.of_body Bd
  have e0 : s₁.heap = h0 := by rw [← hh, Bd.state]; rfl
  have N0 := Fr.nil n0
  show own_Goes p e below s (Q8 Z p1 p2 h0 n0) R8.cells R8.slots s₁ (entryFrame m #[(.int p1), (.int p2)] 2)
  rw [ef_8 m p1 p2]
  refine own_step (f' := (mkF m 1 #[.val (.int p1), .val (.int p2)] [(.int p1)])) (fun _ k => XS.iloadN X0.here hx rfl (hb hby d8_0) rfl k) ?_
  refine own_step (f' := (mkF m 2 #[.val (.int p1), .val (.int p2)] [(.int p2), (.int p1)])) (fun _ k => XS.iloadN X0.here hx rfl (hb hby d8_1) rfl k) ?_
  by_cases hc2_1 : p2 < p1
  · refine own_step (f' := (mkF m 9 #[.val (.int p1), .val (.int p2)] [])) (fun _ k => XS.icmpYes X0.here hx rfl (pc0 := 2) (pc' := 9) rfl (hb hby d8_2) rfl (tlt hc2_1).2.2.1 (by decide) (by decide) k) ?_
    refine own_step (f' := (mkF m 10 #[.val (.int p1), .val (.int p2)] [(.int p2)])) (fun _ k => XS.iloadN X0.here hx rfl (hb hby d8_9) rfl k) ?_
    refine own_out (v := some (.int p2)) X0 hlk (fun h => by rw [Bd.returns] at h; cases h) (fun fs hr => retOut X0 hx Bd.returns rfl (Or.inl ⟨rfl, Or.inl rfl, _, rfl⟩) (hb hby d8_10) hr) (by decide) (by decide) ?_
    rw [e0]
    exact ⟨(by rw [own_min, if_pos hc2_1]), rfl, rfl⟩
  · refine own_step (f' := (mkF m 5 #[.val (.int p1), .val (.int p2)] [])) (fun _ k => XS.icmpNo X0.here hx rfl (hb hby d8_2) rfl (flt hc2_1).2.2.1 k) ?_
    refine own_step (f' := (mkF m 6 #[.val (.int p1), .val (.int p2)] [(.int p1)])) (fun _ k => XS.iloadN X0.here hx rfl (hb hby d8_5) rfl k) ?_
    refine own_step (f' := (mkF m 10 #[.val (.int p1), .val (.int p2)] [(.int p1)])) (fun _ k => XS.goto X0.here hx rfl (pc0 := 6) (pc' := 10) rfl (hb hby d8_6) (by decide) (by decide) k) ?_
    refine own_out (v := some (.int p1)) X0 hlk (fun h => by rw [Bd.returns] at h; cases h) (fun fs hr => retOut X0 hx Bd.returns rfl (Or.inl ⟨rfl, Or.inl rfl, _, rfl⟩) (hb hby d8_10) hr) (by decide) (by decide) ?_
    rw [e0]
    exact ⟨(by rw [own_min, if_neg hc2_1]), rfl, rfl⟩
theorem d9_0 : decode jdk_29_method_65_code 0 = .ok (.iload_n 0, 1) := by decide +kernel
theorem d9_1 : decode jdk_29_method_65_code 1 = .ok (.iload_n 1, 1) := by decide +kernel
theorem d9_2 : decode jdk_29_method_65_code 2 = .ok (.if_icmp .lt 7, 3) := by decide +kernel
theorem d9_5 : decode jdk_29_method_65_code 5 = .ok (.iload_n 0, 1) := by decide +kernel
theorem d9_6 : decode jdk_29_method_65_code 6 = .ok (.goto 4, 3) := by decide +kernel
theorem d9_9 : decode jdk_29_method_65_code 9 = .ok (.iload_n 1, 1) := by decide +kernel
theorem d9_10 : decode jdk_29_method_65_code 10 = .ok (.ireturn, 1) := by decide +kernel
theorem ef_9 (m : MethodId) (x0 : Int32) (x1 : Int32) : entryFrame m #[(.int x0), (.int x1)] 2 = mkF m 0 #[.val (.int x0), .val (.int x1)] [] := by first | (simp [entryFrame, mkF, argsToLocals, Value.category]; done) | rfl
def Q9 (Z : State) (p1 : Int32) (p2 : Int32) (h0 : Heap) (n0 : Nat) (v : Option Value) (h : Heap) (L : List Loc) : Prop := v = some (.int (own_max p1 p2)) ∧ L = [] ∧ h = h0
abbrev R9 : Room := { frames := 0, cells := 0, slots := 0, locals := 0 }
set_option maxRecDepth 65536 in
set_option maxHeartbeats 40000000 in
theorem rm9 (l : Launch) (Z : State) (a0 : Array Value) (hw : ∀ d ∈ tables_1, d.before a0 Z = true) (ws : List Jvm.Cond) (p1 : Int32) (p2 : Int32) (h0 : Heap) (n0 : Nat) (Z0 : n0 ≤ h0.size)  :
    MetFree l (⟨"java/lang/Math", "max", "(II)I"⟩ : MethodName) (head1 (Jvm.Cond.code (⟨"java/lang/Math", "max", "(II)I"⟩ : MethodName) jdk_29_method_65_code 2 (some .int) :: ws) R9) (fun a U => a = #[(.int p1), (.int p2)] ∧ Z.Warmed39 U.vm ∧ U.heap = h0) (fun _ _ _ _ _ => True) (fun _ U o U' => ∃ v L, o = .returned v ∧ Q9 Z p1 p2 h0 n0 v U'.heap L ∧ FrameEnd U o U' L R9.cells R9.slots) := by
  refine MetFree.of_bodySF (Jvm.Free.JP.mathPlain rfl (by decide +kernel)) hisR ?_
  intro p e s m args below meth c s₁ Bd hml0 hP hK
  obtain ⟨rfl, hZ, hh⟩ := hP
  have hx := Bd.exec
  have hby := Bd.bytes
  have hlk : meth.locks = false := BodyLoose.notSynchronized Bd
  have hml : c.maxLocals = 2 := hml0
  have hown : s.vm.findClass "java/lang/Math" = some m.cls := findClass_of_methodNamed Bd.named
  have hnm := (name_of_methodNamed Bd.named Bd.method).1
  have X0 : Stand p l e R9 s m #[(.int p1), (.int p2)] below meth c s₁ [] 0 0 := Stand.of_body Bd
  have e0 : s₁.heap = h0 := by rw [← hh, Bd.state]; rfl
  have N0 := Fr.nil n0
  show own_Goes p e below s (Q9 Z p1 p2 h0 n0) R9.cells R9.slots s₁ (entryFrame m #[(.int p1), (.int p2)] 2)
  rw [ef_9 m p1 p2]
  refine own_step (f' := (mkF m 1 #[.val (.int p1), .val (.int p2)] [(.int p1)])) (fun _ k => XS.iloadN X0.here hx rfl (hb hby d9_0) rfl k) ?_
  refine own_step (f' := (mkF m 2 #[.val (.int p1), .val (.int p2)] [(.int p2), (.int p1)])) (fun _ k => XS.iloadN X0.here hx rfl (hb hby d9_1) rfl k) ?_
  by_cases hc2_1 : p1 < p2
  · refine own_step (f' := (mkF m 9 #[.val (.int p1), .val (.int p2)] [])) (fun _ k => XS.icmpYes X0.here hx rfl (pc0 := 2) (pc' := 9) rfl (hb hby d9_2) rfl (tlt hc2_1).1 (by decide) (by decide) k) ?_
    refine own_step (f' := (mkF m 10 #[.val (.int p1), .val (.int p2)] [(.int p2)])) (fun _ k => XS.iloadN X0.here hx rfl (hb hby d9_9) rfl k) ?_
    refine own_out (v := some (.int p2)) X0 hlk (fun h => by rw [Bd.returns] at h; cases h) (fun fs hr => retOut X0 hx Bd.returns rfl (Or.inl ⟨rfl, Or.inl rfl, _, rfl⟩) (hb hby d9_10) hr) (by decide) (by decide) ?_
    rw [e0]
    exact ⟨(by rw [own_max, if_pos hc2_1]), rfl, rfl⟩
  · refine own_step (f' := (mkF m 5 #[.val (.int p1), .val (.int p2)] [])) (fun _ k => XS.icmpNo X0.here hx rfl (hb hby d9_2) rfl (flt hc2_1).1 k) ?_
    refine own_step (f' := (mkF m 6 #[.val (.int p1), .val (.int p2)] [(.int p1)])) (fun _ k => XS.iloadN X0.here hx rfl (hb hby d9_5) rfl k) ?_
    refine own_step (f' := (mkF m 10 #[.val (.int p1), .val (.int p2)] [(.int p1)])) (fun _ k => XS.goto X0.here hx rfl (pc0 := 6) (pc' := 10) rfl (hb hby d9_6) (by decide) (by decide) k) ?_
    refine own_out (v := some (.int p1)) X0 hlk (fun h => by rw [Bd.returns] at h; cases h) (fun fs hr => retOut X0 hx Bd.returns rfl (Or.inl ⟨rfl, Or.inl rfl, _, rfl⟩) (hb hby d9_10) hr) (by decide) (by decide) ?_
    rw [e0]
    exact ⟨(by rw [own_max, if_neg hc2_1]), rfl, rfl⟩
theorem pd_1 : parseMethodDescriptor "()I" = some ⟨[], some .int⟩ := by decide +kernel
theorem d4_0 : decode prog_49_method_1_code 0 = .ok (.aload_n 0, 1) := by decide +kernel
theorem d4_1 : decode prog_49_method_1_code 1 = .ok (.invokespecial 1, 3) := by decide +kernel
theorem d4_4 : decode prog_49_method_1_code 4 = .ok (.iload_n 2, 1) := by decide +kernel
theorem d4_5 : decode prog_49_method_1_code 5 = .ok (.aload_n 1, 1) := by decide +kernel
theorem d4_6 : decode prog_49_method_1_code 6 = .ok (.invokevirtual 7, 3) := by decide +kernel
theorem d4_9 : decode prog_49_method_1_code 9 = .ok (.if_icmp .eq 29, 3) := by decide +kernel
theorem d4_12 : decode prog_49_method_1_code 12 = .ok (.iload_n 2, 1) := by decide +kernel
theorem d4_13 : decode prog_49_method_1_code 13 = .ok (.aload_n 1, 1) := by decide +kernel
theorem d4_14 : decode prog_49_method_1_code 14 = .ok (.invokevirtual 13, 3) := by decide +kernel
theorem d4_17 : decode prog_49_method_1_code 17 = .ok (.if_icmp .eq 21, 3) := by decide +kernel
theorem d4_38 : decode prog_49_method_1_code 38 = .ok (.aload_n 0, 1) := by decide +kernel
theorem d4_39 : decode prog_49_method_1_code 39 = .ok (.aload_n 1, 1) := by decide +kernel
theorem d4_40 : decode prog_49_method_1_code 40 = .ok (.putfield 31, 3) := by decide +kernel
theorem d4_43 : decode prog_49_method_1_code 43 = .ok (.aload_n 0, 1) := by decide +kernel
theorem d4_44 : decode prog_49_method_1_code 44 = .ok (.iload_n 2, 1) := by decide +kernel
theorem d4_45 : decode prog_49_method_1_code 45 = .ok (.putfield 37, 3) := by decide +kernel
theorem d4_48 : decode prog_49_method_1_code 48 = .ok (.return_, 1) := by decide +kernel
theorem pn_2 : plainName "com/example/kostyashki/kostyashki/round/Placement" = true := by first | (simp [plainName, overriddenIn]; done) | decide +kernel
theorem ef_4 (m : MethodId) (x0 : Addr) (x1 : Addr) (x2 : Int32) : entryFrame m #[(.ref x0), (.ref x1), (.int x2)] 3 = mkF m 0 #[.val (.ref x0), .val (.ref x1), .val (.int x2)] [] := by first | (simp [entryFrame, mkF, argsToLocals, Value.category]; done) | rfl
def Q4 (Z : State) (a1 : Addr) (a2 : Addr) (p3 : Int32) (u1 : Value) (u2 : Value) (q1 : Int32) (q2 : Int32) (h0 : Heap) (n0 : Nat) (v : Option Value) (h : Heap) (L : List Loc) : Prop := v = none ∧ Fr n0 L ∧ Keep h0 h [a1] ∧ Exa Z h a1 "com/example/kostyashki/kostyashki/round/Placement" ∧ Fld Z h a1 "com/example/kostyashki/kostyashki/round/Placement" "tile" "Lcom/example/kostyashki/kostyashki/tiles/Tile;" (.ref a2) ∧ Fld Z h a1 "com/example/kostyashki/kostyashki/round/Placement" "touching" "I" (.int p3)
abbrev R4 : Room := { frames := 2, cells := 0, slots := 0, locals := 24 }
set_option maxRecDepth 65536 in
set_option maxHeartbeats 40000000 in
theorem rm4 (l : Launch) (Z : State) (a0 : Array Value) (hw : ∀ d ∈ tables_1, d.before a0 Z = true) (ws : List Jvm.Cond) (a1 : Addr) (a2 : Addr) (p3 : Int32) (u1 : Value) (u2 : Value) (q1 : Int32) (q2 : Int32) (h0 : Heap) (n0 : Nat) (Z0 : n0 ≤ h0.size) (E_a1 : Exa Z h0 a1 "com/example/kostyashki/kostyashki/round/Placement") (F_tile_a1 : Fld Z h0 a1 "com/example/kostyashki/kostyashki/round/Placement" "tile" "Lcom/example/kostyashki/kostyashki/tiles/Tile;" u1) (F_touching_a1 : Fld Z h0 a1 "com/example/kostyashki/kostyashki/round/Placement" "touching" "I" u2) (g_a1 : n0 ≤ a1) (E_a2 : Exa Z h0 a2 "com/example/kostyashki/kostyashki/tiles/Tile") (F_low_a2 : Fld Z h0 a2 "com/example/kostyashki/kostyashki/tiles/Tile" "low" "I" (.int q1)) (F_high_a2 : Fld Z h0 a2 "com/example/kostyashki/kostyashki/tiles/Tile" "high" "I" (.int q2)) (hpO : p3 = q1 ∨ p3 = q2) :
    MetFree l (⟨"com/example/kostyashki/kostyashki/round/Placement", "<init>", "(Lcom/example/kostyashki/kostyashki/tiles/Tile;I)V"⟩ : MethodName) (head1 (Jvm.Cond.code (⟨"com/example/kostyashki/kostyashki/round/Placement", "<init>", "(Lcom/example/kostyashki/kostyashki/tiles/Tile;I)V"⟩ : MethodName) prog_49_method_1_code 3 none :: ws) R4) (fun a U => a = #[(.ref a1), (.ref a2), (.int p3)] ∧ Z.Warmed39 U.vm ∧ U.heap = h0) (fun _ _ _ _ _ => True) (fun _ U o U' => ∃ v L, o = .returned v ∧ Q4 Z a1 a2 p3 u1 u2 q1 q2 h0 n0 v U'.heap L ∧ FrameEnd U o U' L R4.cells R4.slots) := by
  refine MetFree.of_bodySF (plainFor_of_name pn_2) hisR ?_
  intro p e s m args below meth c s₁ Bd hml0 hP hK
  obtain ⟨rfl, hZ, hh⟩ := hP
  have hx := Bd.exec
  have hby := Bd.bytes
  have hlk : meth.locks = false := BodyLoose.notSynchronized Bd
  have hml : c.maxLocals = 3 := hml0
  have hown : s.vm.findClass "com/example/kostyashki/kostyashki/round/Placement" = some m.cls := findClass_of_methodNamed Bd.named
  have hnm := (name_of_methodNamed Bd.named Bd.method).1
  have X0 : Stand p l e R4 s m #[(.ref a1), (.ref a2), (.int p3)] below meth c s₁ [] 0 0 := Stand.of_body Bd
  have e0 : s₁.heap = h0 := by rw [← hh, Bd.state]; rfl
  have N0 := Fr.nil n0
  show own_Goes p e below s (Q4 Z a1 a2 p3 u1 u2 q1 q2 h0 n0) R4.cells R4.slots s₁ (entryFrame m #[(.ref a1), (.ref a2), (.int p3)] 3)
  rw [ef_4 m a1 a2 p3]
  refine own_step (f' := (mkF m 1 #[.val (.ref a1), .val (.ref a2), .val (.int p3)] [(.ref a1)])) (fun _ k => XS.aloadN X0.here hx rfl (hb hby d4_0) rfl rfl k) ?_
  have Zq1 : n0 ≤ h0.size := Z0
  obtain ⟨_, _, ⟨T1, L1, k1, n1⟩, -, X1, ⟨Lc1, hQ1, l1, y1, z1⟩, st1⟩ := X0.specialBack hx (y := (⟨"java/lang/Record", "<init>", "()V"⟩ : MethodName)) rfl hown (mvT hZ (hw _ (List.mem_of_getElem? (i := 25) rfl))) (mvT hZ (hw _ (List.mem_of_getElem? (i := 8) rfl))) (mvT hZ (hw _ (List.mem_of_getElem? (i := 11) rfl))) (by decide) (backOf (W := 0) (rm2 l Z a0 hw [] a1 h0 n0 Zq1 ) hZ (hw _ (List.mem_of_getElem? (i := 11) rfl)) (hw _ (List.mem_of_getElem? (i := 10) rfl)) (by decide) (by decide)) (g := (mkF m 1 #[.val (.ref a1), .val (.ref a2), .val (.int p3)] [(.ref a1)])) rfl (by rw [hml]; rfl) (Steps.refl _) (a := a1) (argsL := []) (rest := []) (lenOf pd_0 rfl) rfl (by show 2 * 0 + _ ≤ _; exact Nat.le_of_eq rfl) (hb hby d4_1) (fun _ _ => ⟨rfl, e0, (by decide : 0 + 0 ≤ _), (by decide : 0 + 0 ≤ _)⟩)
  dsimp only [Pt.U, Pt.locs, Pt.cells, Pt.slots] at X1 l1 y1 z1 st1 hQ1
  subst l1 y1 z1
  obtain ⟨rfl, rfl, e1⟩ := hQ1
  try rw [List.append_nil] at X1
  refine own_jump (f' := (mkF m 4 #[.val (.ref a1), .val (.ref a2), .val (.int p3)] [])) st1 ?_
  refine own_step (f' := (mkF m 5 #[.val (.ref a1), .val (.ref a2), .val (.int p3)] [(.int p3)])) (fun _ k => XS.iloadN X1.here hx rfl (hb hby d4_4) rfl k) ?_
  refine own_step (f' := (mkF m 6 #[.val (.ref a1), .val (.ref a2), .val (.int p3)] [(.ref a2), (.int p3)])) (fun _ k => XS.aloadN X1.here hx rfl (hb hby d4_5) rfl rfl k) ?_
  have Zq2 : n0 ≤ h0.size := Z0
  obtain ⟨cq2, kq2, q2a, q2b, q2c⟩ := isOf hZ e1 E_a2
  obtain ⟨_, _, ⟨T2, L2, k2, n2⟩, -, X2, ⟨Lc2, hQ2, l2, y2, z2⟩, st2⟩ := X1.virtualBack hx (y := (⟨"com/example/kostyashki/kostyashki/tiles/Tile", "low", "()I"⟩ : MethodName)) (z := (⟨"com/example/kostyashki/kostyashki/tiles/Tile", "low", "()I"⟩ : MethodName)) hown (mvT hZ (hw _ (List.mem_of_getElem? (i := 26) rfl))) (mvT hZ (hw _ (List.mem_of_getElem? (i := 27) rfl))) (notFace_of_selects (args := #[]) (mvT hZ (hw _ (List.mem_of_getElem? (i := 29) rfl)))) (mvT hZ (hw _ (List.mem_of_getElem? (i := 29) rfl))) (mvT hZ (hw _ (List.mem_of_getElem? (i := 28) rfl))) (by decide) (backOf (W := 1) (rm5 l Z a0 hw [] a2 q1 h0 n0 Zq2 F_low_a2) hZ (hw _ (List.mem_of_getElem? (i := 30) rfl)) (hw _ (List.mem_of_getElem? (i := 3) rfl)) (by decide) (by decide)) q2a q2c (g := (mkF m 6 #[.val (.ref a1), .val (.ref a2), .val (.int p3)] [(.ref a2), (.int p3)])) rfl (by rw [hml]; rfl) (Steps.refl _) (argsL := []) (rest := [(.int p3)]) (lenOf pd_1 rfl) rfl (by show 2 * 0 + _ ≤ _; exact Nat.le_of_eq rfl) (hb hby d4_6) (fun _ _ => ⟨rfl, e1, (by decide : 0 + 0 ≤ _), (by decide : 0 + 0 ≤ _)⟩)
  dsimp only [Pt.U, Pt.locs, Pt.cells, Pt.slots] at X2 l2 y2 z2 st2 hQ2
  subst l2 y2 z2
  obtain ⟨rfl, rfl, e2⟩ := hQ2
  try rw [List.append_nil] at X2
  refine own_jump (f' := (mkF m 9 #[.val (.ref a1), .val (.ref a2), .val (.int p3)] [(.int q1), (.int p3)])) st2 ?_
  have J9_6 : ∀ (T9_6 : State) , Stand p l e R4 s m #[(.ref a1), (.ref a2), (.int p3)] below meth c T9_6 [] 0 0 → T9_6.heap = h0 → own_Goes p e below s (Q4 Z a1 a2 p3 u1 u2 q1 q2 h0 n0) R4.cells R4.slots T9_6 (mkF m 38 #[.val (.ref a1), .val (.ref a2), .val (.int p3)] []) := by
    intro T9_6  X9_6 e9_6 
    refine own_step (f' := (mkF m 39 #[.val (.ref a1), .val (.ref a2), .val (.int p3)] [(.ref a1)])) (fun _ k => XS.aloadN X9_6.here hx rfl (hb hby d4_38) rfl rfl k) ?_
    refine own_step (f' := (mkF m 40 #[.val (.ref a1), .val (.ref a2), .val (.int p3)] [(.ref a2), (.ref a1)])) (fun _ k => XS.aloadN X9_6.here hx rfl (hb hby d4_39) rfl rfl k) ?_
    obtain ⟨T7, h7, X7, e7, W7, st7⟩ := putF X9_6 hx hZ hown (host := "") (Or.inl (hw _ (List.mem_of_getElem? (i := 36) rfl))) Via.refl e9_6 F_tile_a1 E_a1 (Or.inr ⟨(hw _ (List.mem_of_getElem? (i := 37) rfl)), rfl, hnm⟩) (hw _ (List.mem_of_getElem? (i := 20) rfl)) (ty := (.object "com/example/kostyashki/kostyashki/tiles/Tile")) (by decide) rfl rfl (g := (mkF m 40 #[.val (.ref a1), .val (.ref a2), .val (.int p3)] [(.ref a2), (.ref a1)])) rfl rfl (hb hby d4_40)
    obtain ⟨Lo7, X7, N7⟩ : ∃ K, Stand p l e R4 s m #[(.ref a1), (.ref a2), (.int p3)] below meth c T7 K 0 0 ∧ Fr n0 K := ⟨_, X7, (Fr.snoc X7 N0 g_a1)⟩
    refine own_step (f' := (mkF m 43 #[.val (.ref a1), .val (.ref a2), .val (.int p3)] [])) st7 ?_
    refine own_step (f' := (mkF m 44 #[.val (.ref a1), .val (.ref a2), .val (.int p3)] [(.ref a1)])) (fun _ k => XS.aloadN X7.here hx rfl (hb hby d4_43) rfl rfl k) ?_
    refine own_step (f' := (mkF m 45 #[.val (.ref a1), .val (.ref a2), .val (.int p3)] [(.int p3), (.ref a1)])) (fun _ k => XS.iloadN X7.here hx rfl (hb hby d4_44) rfl k) ?_
    obtain ⟨T8, h8, X8, e8, W8, st8⟩ := putF X7 hx hZ hown (host := "") (Or.inl (hw _ (List.mem_of_getElem? (i := 38) rfl))) Via.refl e7 (F_touching_a1.other W7 (Or.inr (slot_ne (Or.inr (hw _ (List.mem_of_getElem? (i := 39) rfl))) (Or.inr (hw _ (List.mem_of_getElem? (i := 37) rfl))) (by decide) (t := .int) (t' := (.object "com/example/kostyashki/kostyashki/tiles/Tile")) (by decide) (by decide)))) (E_a1.wr W7) (Or.inr ⟨(hw _ (List.mem_of_getElem? (i := 39) rfl)), rfl, hnm⟩) (hw _ (List.mem_of_getElem? (i := 20) rfl)) (ty := .int) (by decide) rfl rfl (g := (mkF m 45 #[.val (.ref a1), .val (.ref a2), .val (.int p3)] [(.int p3), (.ref a1)])) rfl rfl (hb hby d4_45)
    obtain ⟨Lo8, X8, N8⟩ : ∃ K, Stand p l e R4 s m #[(.ref a1), (.ref a2), (.int p3)] below meth c T8 K 0 0 ∧ Fr n0 K := ⟨_, X8, (Fr.snoc X8 N7 g_a1)⟩
    refine own_step (f' := (mkF m 48 #[.val (.ref a1), .val (.ref a2), .val (.int p3)] [])) st8 ?_
    refine own_out (v := none) X8 hlk (fun _ => rfl) (fun fs hr => X8.returnOut hx Bd.returns (hb hby d4_48) hr) (by decide) (by decide) ?_
    rw [e8]
    exact ⟨rfl, N8, (((Keep.refl h0 [a1]).wr W7 (Or.inl (List.mem_of_getElem? (i := 0) rfl))).wr W8 (Or.inl (List.mem_of_getElem? (i := 0) rfl))), ((E_a1.wr W7).wr W8), ((F_tile_a1.same W7).other W8 (Or.inr (slot_ne (Or.inr (hw _ (List.mem_of_getElem? (i := 37) rfl))) (Or.inr (hw _ (List.mem_of_getElem? (i := 39) rfl))) (by decide) (t := (.object "com/example/kostyashki/kostyashki/tiles/Tile")) (t' := .int) (by decide) (by decide)))), ((F_touching_a1.other W7 (Or.inr (slot_ne (Or.inr (hw _ (List.mem_of_getElem? (i := 39) rfl))) (Or.inr (hw _ (List.mem_of_getElem? (i := 37) rfl))) (by decide) (t := .int) (t' := (.object "com/example/kostyashki/kostyashki/tiles/Tile")) (by decide) (by decide)))).same W8)⟩
  by_cases hc9_3 : p3 = q1
  · refine own_step (f' := (mkF m 38 #[.val (.ref a1), .val (.ref a2), .val (.int p3)] [])) (fun _ k => XS.icmpYes X2.here hx rfl (pc0 := 9) (pc' := 38) rfl (hb hby d4_9) rfl (teq hc9_3).1 (by decide) (by decide) k) ?_
    exact J9_6 _  X2 e2 
  · refine own_step (f' := (mkF m 12 #[.val (.ref a1), .val (.ref a2), .val (.int p3)] [])) (fun _ k => XS.icmpNo X2.here hx rfl (hb hby d4_9) rfl (feq hc9_3).1 k) ?_
    refine own_step (f' := (mkF m 13 #[.val (.ref a1), .val (.ref a2), .val (.int p3)] [(.int p3)])) (fun _ k => XS.iloadN X2.here hx rfl (hb hby d4_12) rfl k) ?_
    refine own_step (f' := (mkF m 14 #[.val (.ref a1), .val (.ref a2), .val (.int p3)] [(.ref a2), (.int p3)])) (fun _ k => XS.aloadN X2.here hx rfl (hb hby d4_13) rfl rfl k) ?_
    have Zq1004 : n0 ≤ h0.size := Z0
    obtain ⟨cq1004, kq1004, q1004a, q1004b, q1004c⟩ := isOf hZ e2 E_a2
    obtain ⟨_, _, ⟨T1004, L1004, k1004, n1004⟩, -, X1004, ⟨Lc1004, hQ1004, l1004, y1004, z1004⟩, st1004⟩ := X2.virtualBack hx (y := (⟨"com/example/kostyashki/kostyashki/tiles/Tile", "high", "()I"⟩ : MethodName)) (z := (⟨"com/example/kostyashki/kostyashki/tiles/Tile", "high", "()I"⟩ : MethodName)) hown (mvT hZ (hw _ (List.mem_of_getElem? (i := 31) rfl))) (mvT hZ (hw _ (List.mem_of_getElem? (i := 32) rfl))) (notFace_of_selects (args := #[]) (mvT hZ (hw _ (List.mem_of_getElem? (i := 34) rfl)))) (mvT hZ (hw _ (List.mem_of_getElem? (i := 34) rfl))) (mvT hZ (hw _ (List.mem_of_getElem? (i := 33) rfl))) (by decide) (backOf (W := 1) (rm6 l Z a0 hw [] a2 q2 h0 n0 Zq1004 F_high_a2) hZ (hw _ (List.mem_of_getElem? (i := 35) rfl)) (hw _ (List.mem_of_getElem? (i := 3) rfl)) (by decide) (by decide)) q1004a q1004c (g := (mkF m 14 #[.val (.ref a1), .val (.ref a2), .val (.int p3)] [(.ref a2), (.int p3)])) rfl (by rw [hml]; rfl) (Steps.refl _) (argsL := []) (rest := [(.int p3)]) (lenOf pd_1 rfl) rfl (by show 2 * 0 + _ ≤ _; exact Nat.le_of_eq rfl) (hb hby d4_14) (fun _ _ => ⟨rfl, e2, (by decide : 0 + 0 ≤ _), (by decide : 0 + 0 ≤ _)⟩)
    dsimp only [Pt.U, Pt.locs, Pt.cells, Pt.slots] at X1004 l1004 y1004 z1004 st1004 hQ1004
    subst l1004 y1004 z1004
    obtain ⟨rfl, rfl, e1004⟩ := hQ1004
    try rw [List.append_nil] at X1004
    refine own_jump (f' := (mkF m 17 #[.val (.ref a1), .val (.ref a2), .val (.int p3)] [(.int q2), (.int p3)])) st1004 ?_
    by_cases hc17_1005 : p3 = q2
    · refine own_step (f' := (mkF m 38 #[.val (.ref a1), .val (.ref a2), .val (.int p3)] [])) (fun _ k => XS.icmpYes X1004.here hx rfl (pc0 := 17) (pc' := 38) rfl (hb hby d4_17) rfl (teq hc17_1005).1 (by decide) (by decide) k) ?_
      exact J9_6 _  X1004 e1004 
    · refine own_step (f' := (mkF m 20 #[.val (.ref a1), .val (.ref a2), .val (.int p3)] [])) (fun _ k => XS.icmpNo X1004.here hx rfl (hb hby d4_17) rfl (feq hc17_1005).1 k) ?_
      exact (hpO.elim hc9_3 hc17_1005).elim
theorem d7_0 : decode prog_49_method_4_code 0 = .ok (.aload_n 0, 1) := by decide +kernel
theorem d7_1 : decode prog_49_method_4_code 1 = .ok (.getfield 31, 3) := by decide +kernel
theorem d7_4 : decode prog_49_method_4_code 4 = .ok (.invokevirtual 7, 3) := by decide +kernel
theorem d7_7 : decode prog_49_method_4_code 7 = .ok (.aload_n 0, 1) := by decide +kernel
theorem d7_8 : decode prog_49_method_4_code 8 = .ok (.getfield 31, 3) := by decide +kernel
theorem d7_11 : decode prog_49_method_4_code 11 = .ok (.invokevirtual 13, 3) := by decide +kernel
theorem d7_14 : decode prog_49_method_4_code 14 = .ok (.iadd, 1) := by decide +kernel
theorem d7_15 : decode prog_49_method_4_code 15 = .ok (.aload_n 0, 1) := by decide +kernel
theorem d7_16 : decode prog_49_method_4_code 16 = .ok (.getfield 37, 3) := by decide +kernel
theorem d7_19 : decode prog_49_method_4_code 19 = .ok (.isub, 1) := by decide +kernel
theorem d7_20 : decode prog_49_method_4_code 20 = .ok (.ireturn, 1) := by decide +kernel
theorem ef_7 (m : MethodId) (x0 : Addr) : entryFrame m #[(.ref x0)] 1 = mkF m 0 #[.val (.ref x0)] [] := by first | (simp [entryFrame, mkF, argsToLocals, Value.category]; done) | rfl
def Q7 (Z : State) (a1 : Addr) (a2 : Addr) (p3 : Int32) (q1 : Int32) (q2 : Int32) (h0 : Heap) (n0 : Nat) (v : Option Value) (h : Heap) (L : List Loc) : Prop := v = some (.int ((q1 + q2) - p3)) ∧ L = [] ∧ h = h0
abbrev R7 : Room := { frames := 1, cells := 0, slots := 0, locals := 13 }
set_option maxRecDepth 65536 in
set_option maxHeartbeats 40000000 in
theorem rm7 (l : Launch) (Z : State) (a0 : Array Value) (hw : ∀ d ∈ tables_1, d.before a0 Z = true) (ws : List Jvm.Cond) (a1 : Addr) (a2 : Addr) (p3 : Int32) (q1 : Int32) (q2 : Int32) (h0 : Heap) (n0 : Nat) (Z0 : n0 ≤ h0.size) (F_tile_a1 : Fld Z h0 a1 "com/example/kostyashki/kostyashki/round/Placement" "tile" "Lcom/example/kostyashki/kostyashki/tiles/Tile;" (.ref a2)) (F_touching_a1 : Fld Z h0 a1 "com/example/kostyashki/kostyashki/round/Placement" "touching" "I" (.int p3)) (E_a2 : Exa Z h0 a2 "com/example/kostyashki/kostyashki/tiles/Tile") (F_low_a2 : Fld Z h0 a2 "com/example/kostyashki/kostyashki/tiles/Tile" "low" "I" (.int q1)) (F_high_a2 : Fld Z h0 a2 "com/example/kostyashki/kostyashki/tiles/Tile" "high" "I" (.int q2)) :
    MetFree l (⟨"com/example/kostyashki/kostyashki/round/Placement", "other", "()I"⟩ : MethodName) (head1 (Jvm.Cond.code (⟨"com/example/kostyashki/kostyashki/round/Placement", "other", "()I"⟩ : MethodName) prog_49_method_4_code 1 (some .int) :: ws) R7) (fun a U => a = #[(.ref a1)] ∧ Z.Warmed39 U.vm ∧ U.heap = h0) (fun _ _ _ _ _ => True) (fun _ U o U' => ∃ v L, o = .returned v ∧ Q7 Z a1 a2 p3 q1 q2 h0 n0 v U'.heap L ∧ FrameEnd U o U' L R7.cells R7.slots) := by
  refine MetFree.of_bodySF (plainFor_of_name pn_2) hisR ?_
  intro p e s m args below meth c s₁ Bd hml0 hP hK
  obtain ⟨rfl, hZ, hh⟩ := hP
  have hx := Bd.exec
  have hby := Bd.bytes
  have hlk : meth.locks = false := BodyLoose.notSynchronized Bd
  have hml : c.maxLocals = 1 := hml0
  have hown : s.vm.findClass "com/example/kostyashki/kostyashki/round/Placement" = some m.cls := findClass_of_methodNamed Bd.named
  have hnm := (name_of_methodNamed Bd.named Bd.method).1
  have X0 : Stand p l e R7 s m #[(.ref a1)] below meth c s₁ [] 0 0 := Stand.of_body Bd
  have e0 : s₁.heap = h0 := by rw [← hh, Bd.state]; rfl
  have N0 := Fr.nil n0
  show own_Goes p e below s (Q7 Z a1 a2 p3 q1 q2 h0 n0) R7.cells R7.slots s₁ (entryFrame m #[(.ref a1)] 1)
  rw [ef_7 m a1]
  refine own_step (f' := (mkF m 1 #[.val (.ref a1)] [(.ref a1)])) (fun _ k => XS.aloadN X0.here hx rfl (hb hby d7_0) rfl rfl k) ?_
  obtain ⟨T1, X1, e1, st1⟩ := getF X0 hx hZ hown (host := "") (Or.inl (hw _ (List.mem_of_getElem? (i := 36) rfl))) Via.refl e0 F_tile_a1 (g := (mkF m 1 #[.val (.ref a1)] [(.ref a1)])) rfl rfl (hb hby d7_1)
  refine own_step (f' := (mkF m 4 #[.val (.ref a1)] [(.ref a2)])) st1 ?_
  have Zq2 : n0 ≤ h0.size := Z0
  obtain ⟨cq2, kq2, q2a, q2b, q2c⟩ := isOf hZ e1 E_a2
  obtain ⟨_, _, ⟨T2, L2, k2, n2⟩, -, X2, ⟨Lc2, hQ2, l2, y2, z2⟩, st2⟩ := X1.virtualBack hx (y := (⟨"com/example/kostyashki/kostyashki/tiles/Tile", "low", "()I"⟩ : MethodName)) (z := (⟨"com/example/kostyashki/kostyashki/tiles/Tile", "low", "()I"⟩ : MethodName)) hown (mvT hZ (hw _ (List.mem_of_getElem? (i := 26) rfl))) (mvT hZ (hw _ (List.mem_of_getElem? (i := 27) rfl))) (notFace_of_selects (args := #[]) (mvT hZ (hw _ (List.mem_of_getElem? (i := 29) rfl)))) (mvT hZ (hw _ (List.mem_of_getElem? (i := 29) rfl))) (mvT hZ (hw _ (List.mem_of_getElem? (i := 28) rfl))) (by decide) (backOf (W := 0) (rm5 l Z a0 hw [] a2 q1 h0 n0 Zq2 F_low_a2) hZ (hw _ (List.mem_of_getElem? (i := 30) rfl)) (hw _ (List.mem_of_getElem? (i := 3) rfl)) (by decide) (by decide)) q2a q2c (g := (mkF m 4 #[.val (.ref a1)] [(.ref a2)])) rfl (by rw [hml]; rfl) (Steps.refl _) (argsL := []) (rest := []) (lenOf pd_1 rfl) rfl (by show 2 * 0 + _ ≤ _; exact Nat.le_of_eq rfl) (hb hby d7_4) (fun _ _ => ⟨rfl, e1, (by decide : 0 + 0 ≤ _), (by decide : 0 + 0 ≤ _)⟩)
  dsimp only [Pt.U, Pt.locs, Pt.cells, Pt.slots] at X2 l2 y2 z2 st2 hQ2
  subst l2 y2 z2
  obtain ⟨rfl, rfl, e2⟩ := hQ2
  try rw [List.append_nil] at X2
  refine own_jump (f' := (mkF m 7 #[.val (.ref a1)] [(.int q1)])) st2 ?_
  refine own_step (f' := (mkF m 8 #[.val (.ref a1)] [(.ref a1), (.int q1)])) (fun _ k => XS.aloadN X2.here hx rfl (hb hby d7_7) rfl rfl k) ?_
  obtain ⟨T3, X3, e3, st3⟩ := getF X2 hx hZ hown (host := "") (Or.inl (hw _ (List.mem_of_getElem? (i := 36) rfl))) Via.refl e2 F_tile_a1 (g := (mkF m 8 #[.val (.ref a1)] [(.ref a1), (.int q1)])) rfl rfl (hb hby d7_8)
  refine own_step (f' := (mkF m 11 #[.val (.ref a1)] [(.ref a2), (.int q1)])) st3 ?_
  have Zq4 : n0 ≤ h0.size := Z0
  obtain ⟨cq4, kq4, q4a, q4b, q4c⟩ := isOf hZ e3 E_a2
  obtain ⟨_, _, ⟨T4, L4, k4, n4⟩, -, X4, ⟨Lc4, hQ4, l4, y4, z4⟩, st4⟩ := X3.virtualBack hx (y := (⟨"com/example/kostyashki/kostyashki/tiles/Tile", "high", "()I"⟩ : MethodName)) (z := (⟨"com/example/kostyashki/kostyashki/tiles/Tile", "high", "()I"⟩ : MethodName)) hown (mvT hZ (hw _ (List.mem_of_getElem? (i := 31) rfl))) (mvT hZ (hw _ (List.mem_of_getElem? (i := 32) rfl))) (notFace_of_selects (args := #[]) (mvT hZ (hw _ (List.mem_of_getElem? (i := 34) rfl)))) (mvT hZ (hw _ (List.mem_of_getElem? (i := 34) rfl))) (mvT hZ (hw _ (List.mem_of_getElem? (i := 33) rfl))) (by decide) (backOf (W := 1) (rm6 l Z a0 hw [] a2 q2 h0 n0 Zq4 F_high_a2) hZ (hw _ (List.mem_of_getElem? (i := 35) rfl)) (hw _ (List.mem_of_getElem? (i := 3) rfl)) (by decide) (by decide)) q4a q4c (g := (mkF m 11 #[.val (.ref a1)] [(.ref a2), (.int q1)])) rfl (by rw [hml]; rfl) (Steps.refl _) (argsL := []) (rest := [(.int q1)]) (lenOf pd_1 rfl) rfl (by show 2 * 0 + _ ≤ _; exact Nat.le_of_eq rfl) (hb hby d7_11) (fun _ _ => ⟨rfl, e3, (by decide : 0 + 0 ≤ _), (by decide : 0 + 0 ≤ _)⟩)
  dsimp only [Pt.U, Pt.locs, Pt.cells, Pt.slots] at X4 l4 y4 z4 st4 hQ4
  subst l4 y4 z4
  obtain ⟨rfl, rfl, e4⟩ := hQ4
  try rw [List.append_nil] at X4
  refine own_jump (f' := (mkF m 14 #[.val (.ref a1)] [(.int q2), (.int q1)])) st4 ?_
  refine own_step (f' := (mkF m 15 #[.val (.ref a1)] [(.int (q1 + q2))])) (fun _ k => XS.iadd X4.here hx rfl (hb hby d7_14) rfl k) ?_
  refine own_step (f' := (mkF m 16 #[.val (.ref a1)] [(.ref a1), (.int (q1 + q2))])) (fun _ k => XS.aloadN X4.here hx rfl (hb hby d7_15) rfl rfl k) ?_
  obtain ⟨T5, X5, e5, st5⟩ := getF X4 hx hZ hown (host := "") (Or.inl (hw _ (List.mem_of_getElem? (i := 38) rfl))) Via.refl e4 F_touching_a1 (g := (mkF m 16 #[.val (.ref a1)] [(.ref a1), (.int (q1 + q2))])) rfl rfl (hb hby d7_16)
  refine own_step (f' := (mkF m 19 #[.val (.ref a1)] [(.int p3), (.int (q1 + q2))])) st5 ?_
  refine own_step (f' := (mkF m 20 #[.val (.ref a1)] [(.int ((q1 + q2) - p3))])) (fun _ k => XS.isub X5.here hx rfl (hb hby d7_19) rfl k) ?_
  refine own_out (v := some (.int ((q1 + q2) - p3))) X5 hlk (fun h => by rw [Bd.returns] at h; cases h) (fun fs hr => retOut X5 hx Bd.returns rfl (Or.inl ⟨rfl, Or.inl rfl, _, rfl⟩) (hb hby d7_20) hr) (by decide) (by decide) ?_
  rw [e5]
  exact ⟨rfl, rfl, rfl⟩
theorem own_sum (a b : Int32) : own_lo a b + own_hi a b = a + b := by
  unfold own_lo own_hi
  split
  · exact Int32.add_comm _ _
  · rfl
theorem own_min2 (a b : Int32) : own_min b a = own_lo a b ∧ own_min a b = own_lo a b ∧ own_max a b = own_hi a b ∧ own_max b a = own_hi a b := by
  unfold own_min own_max own_lo own_hi
  refine ⟨?_, rfl, ?_, ?_⟩ <;> (repeat' split) <;> simp only [Int32.lt_iff_toInt_lt, ← Int32.toInt_inj] at * <;> omega
theorem own_pl (a b v t x : Int32) (ht : t = if v = 0 then b else a) (hx : x = if v = 0 then a else b) :
    (t = own_lo a b ∨ t = own_hi a b) ∧ (own_lo a b + own_hi a b) - t = x ∧ own_min t ((own_lo a b + own_hi a b) - t) = own_lo a b ∧ own_max t ((own_lo a b + own_hi a b) - t) = own_hi a b := by
  have h1 := own_sum a b
  obtain ⟨m1, m2, m3, m4⟩ := own_min2 a b
  have lh : (a = own_lo a b ∨ a = own_hi a b) ∧ (b = own_lo a b ∨ b = own_hi a b) := by
    unfold own_lo own_hi
    split <;> simp
  rw [h1]
  by_cases q : v = 0
  · rw [if_pos q] at ht hx
    subst ht hx
    rw [Int32.add_sub_cancel]
    exact ⟨lh.2, rfl, m1, m4⟩
  · rw [if_neg q] at ht hx
    subst ht hx
    rw [Int32.add_comm, Int32.add_sub_cancel]
    exact ⟨lh.1, rfl, m2, m3⟩
theorem pd_2 : parseMethodDescriptor "(II)V" = some ⟨[.int, .int], none⟩ := by decide +kernel
theorem pd_3 : parseMethodDescriptor "(Lcom/example/kostyashki/kostyashki/tiles/Tile;I)V" = some ⟨[(.object "com/example/kostyashki/kostyashki/tiles/Tile"), .int], none⟩ := by decide +kernel
theorem pd_4 : parseMethodDescriptor "(II)I" = some ⟨[.int, .int], some .int⟩ := by decide +kernel
theorem pn_3 : plainName "com/example/kostyashki/kostyashki/round/PlacementOtherPinLaw" = true := by first | (simp [plainName, overriddenIn]; done) | decide +kernel
theorem ef_0 (m : MethodId) (x0 : Int32) (x1 : Int32) (x2 : Int32) : entryFrame m #[(.int x0), (.int x1), (.int x2)] maxLocals = mkF m 0 #[.val (.int x0), .val (.int x1), .val (.int x2), .unset, .unset, .unset, .unset, .unset, .unset, .unset, .unset] [] := by first | (simp [entryFrame, mkF, argsToLocals, Value.category, maxLocals]; done) | rfl
def Q0 (Z : State) (i1 : Int32) (i2 : Int32) (i3 : Int32) (h0 : Heap) (n0 : Nat) (v : Option Value) (h : Heap) (L : List Loc) : Prop := v = some (.int 1) ∧ Fr n0 L
set_option maxRecDepth 65536 in
set_option maxHeartbeats 40000000 in
theorem rm0 (l : Launch) (Z : State) (a0 : Array Value) (hw : ∀ d ∈ tables_1, d.before a0 Z = true) (ws : List Jvm.Cond) (i1 : Int32) (i2 : Int32) (i3 : Int32) (h0 : Heap) (n0 : Nat) (Z0 : n0 ≤ h0.size)  :
    MetFree l x (head1 (Jvm.Cond.code x code maxLocals ret :: ws) room_1) (fun a U => a = #[(.int i1), (.int i2), (.int i3)] ∧ Z.Warmed39 U.vm ∧ U.heap = h0) (fun _ _ _ _ _ => True) (fun _ U o U' => ∃ v L, o = .returned v ∧ Q0 Z i1 i2 i3 h0 n0 v U'.heap L ∧ FrameEnd U o U' L room_1.cells room_1.slots) := by
  refine MetFree.of_bodySF (plainFor_of_name pn_3) hisR ?_
  intro p e s m args below meth c s₁ Bd hml0 hP hK
  obtain ⟨rfl, hZ, hh⟩ := hP
  have hx := Bd.exec
  have hby := Bd.bytes
  have hlk : meth.locks = false := BodyLoose.notSynchronized Bd
  have hml : c.maxLocals = 11 := hml0
  have hown : s.vm.findClass "com/example/kostyashki/kostyashki/round/PlacementOtherPinLaw" = some m.cls := findClass_of_methodNamed Bd.named
  have hnm := (name_of_methodNamed Bd.named Bd.method).1
  have X0 : Stand p l e room_1 s m #[(.int i1), (.int i2), (.int i3)] below meth c s₁ [] 0 0 := Stand.of_body Bd
  have e0 : s₁.heap = h0 := by rw [← hh, Bd.state]; rfl
  have N0 := Fr.nil n0
  show own_Goes p e below s (Q0 Z i1 i2 i3 h0 n0) room_1.cells room_1.slots s₁ (entryFrame m #[(.int i1), (.int i2), (.int i3)] maxLocals)
  rw [ef_0 m i1 i2 i3]
  refine own_step (f' := (mkF m 1 #[.val (.int i1), .val (.int i2), .val (.int i3), .unset, .unset, .unset, .unset, .unset, .unset, .unset, .unset] [(.int i1)])) (fun _ k => XS.iloadN X0.here hx rfl (hb hby at_0) rfl k) ?_
  refine own_step (f' := (mkF m 3 #[.val (.int i1), .val (.int i2), .val (.int i3), .unset, .unset, .unset, .unset, .unset, .unset, .unset, .unset] [(.int (2147483647 : Int32)), (.int i1)])) (fun _ k => X0.ldcInt hx hown (mvT hZ (hw _ (List.mem_of_getElem? (i := 0) rfl))) (g := (mkF m 1 #[.val (.int i1), .val (.int i2), .val (.int i3), .unset, .unset, .unset, .unset, .unset, .unset, .unset, .unset] [(.int i1)])) rfl (hb hby at_1) _ k) ?_
  refine own_step (f' := (mkF m 4 #[.val (.int i1), .val (.int i2), .val (.int i3), .unset, .unset, .unset, .unset, .unset, .unset, .unset, .unset] [(.int (i1 &&& (2147483647 : Int32)))])) (fun _ k => XS.iand X0.here hx rfl (hb hby at_3) rfl k) ?_
  refine own_step (f' := (mkF m 6 #[.val (.int i1), .val (.int i2), .val (.int i3), .unset, .unset, .unset, .unset, .unset, .unset, .unset, .unset] [(.int (7 : Int32)), (.int (i1 &&& (2147483647 : Int32)))])) (fun _ k => XS.bipush X0.here hx rfl (hb hby at_4) k) ?_
  refine own_step (f' := (mkF m 7 #[.val (.int i1), .val (.int i2), .val (.int i3), .unset, .unset, .unset, .unset, .unset, .unset, .unset, .unset] [(.int ((i1 &&& (2147483647 : Int32)) % (7 : Int32)))])) (fun _ k => iremM X0 hx rfl (hb hby at_6) rfl (by decide) k) ?_
  refine own_step (f' := (mkF m 8 #[.val (.int i1), .val (.int i2), .val (.int i3), .val (.int ((i1 &&& (2147483647 : Int32)) % (7 : Int32))), .unset, .unset, .unset, .unset, .unset, .unset, .unset] [])) (fun _ k => XS.istoreN X0.here hx rfl (hb hby at_7) rfl (l' := #[.val (.int i1), .val (.int i2), .val (.int i3), .val (.int ((i1 &&& (2147483647 : Int32)) % (7 : Int32))), .unset, .unset, .unset, .unset, .unset, .unset, .unset]) rfl k) ?_
  refine own_step (f' := (mkF m 9 #[.val (.int i1), .val (.int i2), .val (.int i3), .val (.int ((i1 &&& (2147483647 : Int32)) % (7 : Int32))), .unset, .unset, .unset, .unset, .unset, .unset, .unset] [(.int i2)])) (fun _ k => XS.iloadN X0.here hx rfl (hb hby at_8) rfl k) ?_
  refine own_step (f' := (mkF m 11 #[.val (.int i1), .val (.int i2), .val (.int i3), .val (.int ((i1 &&& (2147483647 : Int32)) % (7 : Int32))), .unset, .unset, .unset, .unset, .unset, .unset, .unset] [(.int (2147483647 : Int32)), (.int i2)])) (fun _ k => X0.ldcInt hx hown (mvT hZ (hw _ (List.mem_of_getElem? (i := 0) rfl))) (g := (mkF m 9 #[.val (.int i1), .val (.int i2), .val (.int i3), .val (.int ((i1 &&& (2147483647 : Int32)) % (7 : Int32))), .unset, .unset, .unset, .unset, .unset, .unset, .unset] [(.int i2)])) rfl (hb hby at_9) _ k) ?_
  refine own_step (f' := (mkF m 12 #[.val (.int i1), .val (.int i2), .val (.int i3), .val (.int ((i1 &&& (2147483647 : Int32)) % (7 : Int32))), .unset, .unset, .unset, .unset, .unset, .unset, .unset] [(.int (i2 &&& (2147483647 : Int32)))])) (fun _ k => XS.iand X0.here hx rfl (hb hby at_11) rfl k) ?_
  refine own_step (f' := (mkF m 14 #[.val (.int i1), .val (.int i2), .val (.int i3), .val (.int ((i1 &&& (2147483647 : Int32)) % (7 : Int32))), .unset, .unset, .unset, .unset, .unset, .unset, .unset] [(.int (7 : Int32)), (.int (i2 &&& (2147483647 : Int32)))])) (fun _ k => XS.bipush X0.here hx rfl (hb hby at_12) k) ?_
  refine own_step (f' := (mkF m 15 #[.val (.int i1), .val (.int i2), .val (.int i3), .val (.int ((i1 &&& (2147483647 : Int32)) % (7 : Int32))), .unset, .unset, .unset, .unset, .unset, .unset, .unset] [(.int ((i2 &&& (2147483647 : Int32)) % (7 : Int32)))])) (fun _ k => iremM X0 hx rfl (hb hby at_14) rfl (by decide) k) ?_
  refine own_step (f' := (mkF m 17 #[.val (.int i1), .val (.int i2), .val (.int i3), .val (.int ((i1 &&& (2147483647 : Int32)) % (7 : Int32))), .val (.int ((i2 &&& (2147483647 : Int32)) % (7 : Int32))), .unset, .unset, .unset, .unset, .unset, .unset] [])) (fun _ k => XS.istore X0.here hx rfl (hb hby at_15) rfl (l' := #[.val (.int i1), .val (.int i2), .val (.int i3), .val (.int ((i1 &&& (2147483647 : Int32)) % (7 : Int32))), .val (.int ((i2 &&& (2147483647 : Int32)) % (7 : Int32))), .unset, .unset, .unset, .unset, .unset, .unset]) rfl k) ?_
  refine own_step (f' := (mkF m 18 #[.val (.int i1), .val (.int i2), .val (.int i3), .val (.int ((i1 &&& (2147483647 : Int32)) % (7 : Int32))), .val (.int ((i2 &&& (2147483647 : Int32)) % (7 : Int32))), .unset, .unset, .unset, .unset, .unset, .unset] [(.int i3)])) (fun _ k => XS.iloadN X0.here hx rfl (hb hby at_17) rfl k) ?_
  refine own_step (f' := (mkF m 19 #[.val (.int i1), .val (.int i2), .val (.int i3), .val (.int ((i1 &&& (2147483647 : Int32)) % (7 : Int32))), .val (.int ((i2 &&& (2147483647 : Int32)) % (7 : Int32))), .unset, .unset, .unset, .unset, .unset, .unset] [(.int (1 : Int32)), (.int i3)])) (fun _ k => XS.iconst X0.here hx rfl (hb hby at_18) k) ?_
  refine own_step (f' := (mkF m 20 #[.val (.int i1), .val (.int i2), .val (.int i3), .val (.int ((i1 &&& (2147483647 : Int32)) % (7 : Int32))), .val (.int ((i2 &&& (2147483647 : Int32)) % (7 : Int32))), .unset, .unset, .unset, .unset, .unset, .unset] [(.int (i3 &&& (1 : Int32)))])) (fun _ k => XS.iand X0.here hx rfl (hb hby at_19) rfl k) ?_
  have J20_2 : ∀ (T20_2 : State) (v20_2_s0 : Int32), Stand p l e room_1 s m #[(.int i1), (.int i2), (.int i3)] below meth c T20_2 [] 0 0 → T20_2.heap = h0 → v20_2_s0 = (if (i3 &&& (1 : Int32)) = (0 : Int32) then (0 : Int32) else (1 : Int32)) → own_Goes p e below s (Q0 Z i1 i2 i3 h0 n0) room_1.cells room_1.slots T20_2 (mkF m 28 #[.val (.int i1), .val (.int i2), .val (.int i3), .val (.int ((i1 &&& (2147483647 : Int32)) % (7 : Int32))), .val (.int ((i2 &&& (2147483647 : Int32)) % (7 : Int32))), .unset, .unset, .unset, .unset, .unset, .unset] [(.int v20_2_s0)]) := by
    intro T20_2 v20_2_s0 X20_2 e20_2 hv20_2_0
    refine own_step (f' := (mkF m 30 #[.val (.int i1), .val (.int i2), .val (.int i3), .val (.int ((i1 &&& (2147483647 : Int32)) % (7 : Int32))), .val (.int ((i2 &&& (2147483647 : Int32)) % (7 : Int32))), .val (.int v20_2_s0), .unset, .unset, .unset, .unset, .unset] [])) (fun _ k => XS.istore X20_2.here hx rfl (hb hby at_28) rfl (l' := #[.val (.int i1), .val (.int i2), .val (.int i3), .val (.int ((i1 &&& (2147483647 : Int32)) % (7 : Int32))), .val (.int ((i2 &&& (2147483647 : Int32)) % (7 : Int32))), .val (.int v20_2_s0), .unset, .unset, .unset, .unset, .unset]) rfl k) ?_
    refine own_step (f' := (mkF m 32 #[.val (.int i1), .val (.int i2), .val (.int i3), .val (.int ((i1 &&& (2147483647 : Int32)) % (7 : Int32))), .val (.int ((i2 &&& (2147483647 : Int32)) % (7 : Int32))), .val (.int v20_2_s0), .unset, .unset, .unset, .unset, .unset] [(.int v20_2_s0)])) (fun _ k => XS.iload X20_2.here hx rfl (hb hby at_30) rfl k) ?_
    have J32_4 : ∀ (T32_4 : State) (v32_4_s0 : Int32), Stand p l e room_1 s m #[(.int i1), (.int i2), (.int i3)] below meth c T32_4 [] 0 0 → T32_4.heap = h0 → v32_4_s0 = (if v20_2_s0 = (0 : Int32) then ((i2 &&& (2147483647 : Int32)) % (7 : Int32)) else ((i1 &&& (2147483647 : Int32)) % (7 : Int32))) → own_Goes p e below s (Q0 Z i1 i2 i3 h0 n0) room_1.cells room_1.slots T32_4 (mkF m 41 #[.val (.int i1), .val (.int i2), .val (.int i3), .val (.int ((i1 &&& (2147483647 : Int32)) % (7 : Int32))), .val (.int ((i2 &&& (2147483647 : Int32)) % (7 : Int32))), .val (.int v20_2_s0), .unset, .unset, .unset, .unset, .unset] [(.int v32_4_s0)]) := by
      intro T32_4 v32_4_s0 X32_4 e32_4 hv32_4_0
      refine own_step (f' := (mkF m 43 #[.val (.int i1), .val (.int i2), .val (.int i3), .val (.int ((i1 &&& (2147483647 : Int32)) % (7 : Int32))), .val (.int ((i2 &&& (2147483647 : Int32)) % (7 : Int32))), .val (.int v20_2_s0), .val (.int v32_4_s0), .unset, .unset, .unset, .unset] [])) (fun _ k => XS.istore X32_4.here hx rfl (hb hby at_41) rfl (l' := #[.val (.int i1), .val (.int i2), .val (.int i3), .val (.int ((i1 &&& (2147483647 : Int32)) % (7 : Int32))), .val (.int ((i2 &&& (2147483647 : Int32)) % (7 : Int32))), .val (.int v20_2_s0), .val (.int v32_4_s0), .unset, .unset, .unset, .unset]) rfl k) ?_
      refine own_step (f' := (mkF m 45 #[.val (.int i1), .val (.int i2), .val (.int i3), .val (.int ((i1 &&& (2147483647 : Int32)) % (7 : Int32))), .val (.int ((i2 &&& (2147483647 : Int32)) % (7 : Int32))), .val (.int v20_2_s0), .val (.int v32_4_s0), .unset, .unset, .unset, .unset] [(.int v20_2_s0)])) (fun _ k => XS.iload X32_4.here hx rfl (hb hby at_43) rfl k) ?_
      have J45_6 : ∀ (T45_6 : State) (v45_6_s0 : Int32), Stand p l e room_1 s m #[(.int i1), (.int i2), (.int i3)] below meth c T45_6 [] 0 0 → T45_6.heap = h0 → v45_6_s0 = (if v20_2_s0 = (0 : Int32) then ((i1 &&& (2147483647 : Int32)) % (7 : Int32)) else ((i2 &&& (2147483647 : Int32)) % (7 : Int32))) → own_Goes p e below s (Q0 Z i1 i2 i3 h0 n0) room_1.cells room_1.slots T45_6 (mkF m 54 #[.val (.int i1), .val (.int i2), .val (.int i3), .val (.int ((i1 &&& (2147483647 : Int32)) % (7 : Int32))), .val (.int ((i2 &&& (2147483647 : Int32)) % (7 : Int32))), .val (.int v20_2_s0), .val (.int v32_4_s0), .unset, .unset, .unset, .unset] [(.int v45_6_s0)]) := by
        intro T45_6 v45_6_s0 X45_6 e45_6 hv45_6_0
        have hpl := own_pl _ _ _ _ _ hv32_4_0 hv45_6_0
        refine own_step (f' := (mkF m 56 #[.val (.int i1), .val (.int i2), .val (.int i3), .val (.int ((i1 &&& (2147483647 : Int32)) % (7 : Int32))), .val (.int ((i2 &&& (2147483647 : Int32)) % (7 : Int32))), .val (.int v20_2_s0), .val (.int v32_4_s0), .val (.int v45_6_s0), .unset, .unset, .unset] [])) (fun _ k => XS.istore X45_6.here hx rfl (hb hby at_54) rfl (l' := #[.val (.int i1), .val (.int i2), .val (.int i3), .val (.int ((i1 &&& (2147483647 : Int32)) % (7 : Int32))), .val (.int ((i2 &&& (2147483647 : Int32)) % (7 : Int32))), .val (.int v20_2_s0), .val (.int v32_4_s0), .val (.int v45_6_s0), .unset, .unset, .unset]) rfl k) ?_
        obtain ⟨T7, h7, X7, e7, E7, A7, D7, -, st7⟩ := newO X45_6 hx hZ hown (hw _ (List.mem_of_getElem? (i := 1) rfl)) (hw _ (List.mem_of_getElem? (i := 2) rfl)) (hw _ (List.mem_of_getElem? (i := 3) rfl)) e45_6 (g := (mkF m 56 #[.val (.int i1), .val (.int i2), .val (.int i3), .val (.int ((i1 &&& (2147483647 : Int32)) % (7 : Int32))), .val (.int ((i2 &&& (2147483647 : Int32)) % (7 : Int32))), .val (.int v20_2_s0), .val (.int v32_4_s0), .val (.int v45_6_s0), .unset, .unset, .unset] [])) rfl (hb hby at_56) (by decide) (by decide)
        obtain ⟨b7, g7⟩ : ∃ z, z = h0.size := ⟨_, rfl⟩
        rw [← g7] at A7 D7 st7
        have g_b7 : n0 ≤ b7 := Nat.le_trans Z0 (Nat.le_of_eq g7.symm)
        have F_low_b7 : Fld Z h7 b7 "com/example/kostyashki/kostyashki/tiles/Tile" "low" "I" (.int (0 : Int32)) := D7 (Or.inr (hw _ (List.mem_of_getElem? (i := 16) rfl))) (ty := .int) (by decide)
        have F_high_b7 : Fld Z h7 b7 "com/example/kostyashki/kostyashki/tiles/Tile" "high" "I" (.int (0 : Int32)) := D7 (Or.inr (hw _ (List.mem_of_getElem? (i := 18) rfl))) (ty := .int) (by decide)
        refine own_step (f' := (mkF m 59 #[.val (.int i1), .val (.int i2), .val (.int i3), .val (.int ((i1 &&& (2147483647 : Int32)) % (7 : Int32))), .val (.int ((i2 &&& (2147483647 : Int32)) % (7 : Int32))), .val (.int v20_2_s0), .val (.int v32_4_s0), .val (.int v45_6_s0), .unset, .unset, .unset] [(.ref b7)])) st7 ?_
        refine own_step (f' := (mkF m 60 #[.val (.int i1), .val (.int i2), .val (.int i3), .val (.int ((i1 &&& (2147483647 : Int32)) % (7 : Int32))), .val (.int ((i2 &&& (2147483647 : Int32)) % (7 : Int32))), .val (.int v20_2_s0), .val (.int v32_4_s0), .val (.int v45_6_s0), .unset, .unset, .unset] [(.ref b7), (.ref b7)])) (fun _ k => XS.dup X7.here hx rfl (hb hby at_59) rfl rfl k) ?_
        refine own_step (f' := (mkF m 61 #[.val (.int i1), .val (.int i2), .val (.int i3), .val (.int ((i1 &&& (2147483647 : Int32)) % (7 : Int32))), .val (.int ((i2 &&& (2147483647 : Int32)) % (7 : Int32))), .val (.int v20_2_s0), .val (.int v32_4_s0), .val (.int v45_6_s0), .unset, .unset, .unset] [(.int ((i1 &&& (2147483647 : Int32)) % (7 : Int32))), (.ref b7), (.ref b7)])) (fun _ k => XS.iloadN X7.here hx rfl (hb hby at_60) rfl k) ?_
        refine own_step (f' := (mkF m 63 #[.val (.int i1), .val (.int i2), .val (.int i3), .val (.int ((i1 &&& (2147483647 : Int32)) % (7 : Int32))), .val (.int ((i2 &&& (2147483647 : Int32)) % (7 : Int32))), .val (.int v20_2_s0), .val (.int v32_4_s0), .val (.int v45_6_s0), .unset, .unset, .unset] [(.int ((i2 &&& (2147483647 : Int32)) % (7 : Int32))), (.int ((i1 &&& (2147483647 : Int32)) % (7 : Int32))), (.ref b7), (.ref b7)])) (fun _ k => XS.iload X7.here hx rfl (hb hby at_61) rfl k) ?_
        have hp8_hp1 : ¬ (((i1 &&& (2147483647 : Int32)) % (7 : Int32)) < (0 : Int32)) := (own_m7 _).1
        have hp8_hp2 : ¬ ((6 : Int32) < ((i1 &&& (2147483647 : Int32)) % (7 : Int32))) := (own_m7 _).2
        have hp8_hp3 : ¬ (((i2 &&& (2147483647 : Int32)) % (7 : Int32)) < (0 : Int32)) := (own_m7 _).1
        have hp8_hp4 : ¬ ((6 : Int32) < ((i2 &&& (2147483647 : Int32)) % (7 : Int32))) := (own_m7 _).2
        have Zq8 : n0 ≤ h7.size := (Nat.le_trans Z0 E7.1)
        obtain ⟨_, _, ⟨T8, L8, k8, n8⟩, -, X8, ⟨Lc8, hQ8, l8, y8, z8⟩, st8⟩ := X7.specialBack hx (y := (⟨"com/example/kostyashki/kostyashki/tiles/Tile", "<init>", "(II)V"⟩ : MethodName)) rfl hown (mvT hZ (hw _ (List.mem_of_getElem? (i := 4) rfl))) (mvT hZ (hw _ (List.mem_of_getElem? (i := 5) rfl))) (mvT hZ (hw _ (List.mem_of_getElem? (i := 6) rfl))) (by decide) (backOf (W := 1) (rm1 l Z a0 hw [] b7 ((i1 &&& (2147483647 : Int32)) % (7 : Int32)) ((i2 &&& (2147483647 : Int32)) % (7 : Int32)) (.int (0 : Int32)) (.int (0 : Int32)) h7 n0 Zq8 A7 F_low_b7 F_high_b7 g_b7 hp8_hp1 hp8_hp2 hp8_hp3 hp8_hp4) hZ (hw _ (List.mem_of_getElem? (i := 6) rfl)) (hw _ (List.mem_of_getElem? (i := 3) rfl)) (by decide) (by decide)) (g := (mkF m 63 #[.val (.int i1), .val (.int i2), .val (.int i3), .val (.int ((i1 &&& (2147483647 : Int32)) % (7 : Int32))), .val (.int ((i2 &&& (2147483647 : Int32)) % (7 : Int32))), .val (.int v20_2_s0), .val (.int v32_4_s0), .val (.int v45_6_s0), .unset, .unset, .unset] [(.int ((i2 &&& (2147483647 : Int32)) % (7 : Int32))), (.int ((i1 &&& (2147483647 : Int32)) % (7 : Int32))), (.ref b7), (.ref b7)])) rfl (by rw [hml]; rfl) (Steps.refl _) (a := b7) (argsL := [(.int ((i1 &&& (2147483647 : Int32)) % (7 : Int32))), (.int ((i2 &&& (2147483647 : Int32)) % (7 : Int32)))]) (rest := [(.ref b7)]) (lenOf pd_2 rfl) rfl (by show 2 * 0 + _ ≤ _; exact Nat.le_of_eq rfl) (hb hby at_63) (fun _ _ => ⟨rfl, e7, (by decide : 1 + 0 ≤ _), (by decide : 2 + 0 ≤ _)⟩)
        dsimp only [Pt.U, Pt.locs, Pt.cells, Pt.slots] at X8 l8 y8 z8 st8 hQ8
        subst l8 y8 z8
        obtain ⟨rfl, Nq8, K8, P8_0, P8_1, P8_2⟩ := hQ8
        obtain ⟨Lo8, X8, N8⟩ : ∃ K, Stand p l e room_1 s m #[(.int i1), (.int i2), (.int i3)] below meth c T8 K 1 2 ∧ Fr n0 K := ⟨_, X8, (Fr.app N0 Nq8)⟩
        refine own_jump (f' := (mkF m 66 #[.val (.int i1), .val (.int i2), .val (.int i3), .val (.int ((i1 &&& (2147483647 : Int32)) % (7 : Int32))), .val (.int ((i2 &&& (2147483647 : Int32)) % (7 : Int32))), .val (.int v20_2_s0), .val (.int v32_4_s0), .val (.int v45_6_s0), .unset, .unset, .unset] [(.ref b7)])) st8 ?_
        refine own_step (f' := (mkF m 68 #[.val (.int i1), .val (.int i2), .val (.int i3), .val (.int ((i1 &&& (2147483647 : Int32)) % (7 : Int32))), .val (.int ((i2 &&& (2147483647 : Int32)) % (7 : Int32))), .val (.int v20_2_s0), .val (.int v32_4_s0), .val (.int v45_6_s0), .val (.ref b7), .unset, .unset] [])) (fun _ k => XS.astore X8.here hx rfl (hb hby at_66) rfl rfl (l' := #[.val (.int i1), .val (.int i2), .val (.int i3), .val (.int ((i1 &&& (2147483647 : Int32)) % (7 : Int32))), .val (.int ((i2 &&& (2147483647 : Int32)) % (7 : Int32))), .val (.int v20_2_s0), .val (.int v32_4_s0), .val (.int v45_6_s0), .val (.ref b7), .unset, .unset]) rfl k) ?_
        obtain ⟨T9, h9, X9, e9, E9, A9, D9, -, st9⟩ := newO X8 hx hZ hown (hw _ (List.mem_of_getElem? (i := 19) rfl)) (hw _ (List.mem_of_getElem? (i := 20) rfl)) (hw _ (List.mem_of_getElem? (i := 21) rfl)) rfl (g := (mkF m 68 #[.val (.int i1), .val (.int i2), .val (.int i3), .val (.int ((i1 &&& (2147483647 : Int32)) % (7 : Int32))), .val (.int ((i2 &&& (2147483647 : Int32)) % (7 : Int32))), .val (.int v20_2_s0), .val (.int v32_4_s0), .val (.int v45_6_s0), .val (.ref b7), .unset, .unset] [])) rfl (hb hby at_68) (by decide) (by decide)
        obtain ⟨b9, g9⟩ : ∃ z, z = T8.heap.size := ⟨_, rfl⟩
        rw [← g9] at A9 D9 st9
        have ne_b7_b9 : b7 ≠ b9 := Nat.ne_of_lt (Nat.lt_of_lt_of_le P8_0.lt (Nat.le_of_eq g9.symm))
        have g_b9 : n0 ≤ b9 := Nat.le_trans (Nat.le_trans (Nat.le_trans Z0 E7.1) K8.1) (Nat.le_of_eq g9.symm)
        have F_tile_b9 : Fld Z h9 b9 "com/example/kostyashki/kostyashki/round/Placement" "tile" "Lcom/example/kostyashki/kostyashki/tiles/Tile;" .null := D9 (Or.inr (hw _ (List.mem_of_getElem? (i := 37) rfl))) (ty := (.object "com/example/kostyashki/kostyashki/tiles/Tile")) (by decide)
        have F_touching_b9 : Fld Z h9 b9 "com/example/kostyashki/kostyashki/round/Placement" "touching" "I" (.int (0 : Int32)) := D9 (Or.inr (hw _ (List.mem_of_getElem? (i := 39) rfl))) (ty := .int) (by decide)
        refine own_step (f' := (mkF m 71 #[.val (.int i1), .val (.int i2), .val (.int i3), .val (.int ((i1 &&& (2147483647 : Int32)) % (7 : Int32))), .val (.int ((i2 &&& (2147483647 : Int32)) % (7 : Int32))), .val (.int v20_2_s0), .val (.int v32_4_s0), .val (.int v45_6_s0), .val (.ref b7), .unset, .unset] [(.ref b9)])) st9 ?_
        refine own_step (f' := (mkF m 72 #[.val (.int i1), .val (.int i2), .val (.int i3), .val (.int ((i1 &&& (2147483647 : Int32)) % (7 : Int32))), .val (.int ((i2 &&& (2147483647 : Int32)) % (7 : Int32))), .val (.int v20_2_s0), .val (.int v32_4_s0), .val (.int v45_6_s0), .val (.ref b7), .unset, .unset] [(.ref b9), (.ref b9)])) (fun _ k => XS.dup X9.here hx rfl (hb hby at_71) rfl rfl k) ?_
        refine own_step (f' := (mkF m 74 #[.val (.int i1), .val (.int i2), .val (.int i3), .val (.int ((i1 &&& (2147483647 : Int32)) % (7 : Int32))), .val (.int ((i2 &&& (2147483647 : Int32)) % (7 : Int32))), .val (.int v20_2_s0), .val (.int v32_4_s0), .val (.int v45_6_s0), .val (.ref b7), .unset, .unset] [(.ref b7), (.ref b9), (.ref b9)])) (fun _ k => XS.aload X9.here hx rfl (hb hby at_72) rfl rfl k) ?_
        refine own_step (f' := (mkF m 76 #[.val (.int i1), .val (.int i2), .val (.int i3), .val (.int ((i1 &&& (2147483647 : Int32)) % (7 : Int32))), .val (.int ((i2 &&& (2147483647 : Int32)) % (7 : Int32))), .val (.int v20_2_s0), .val (.int v32_4_s0), .val (.int v45_6_s0), .val (.ref b7), .unset, .unset] [(.int v32_4_s0), (.ref b7), (.ref b9), (.ref b9)])) (fun _ k => XS.iload X9.here hx rfl (hb hby at_74) rfl k) ?_
        have hp10_hpO : v32_4_s0 = (own_lo ((i1 &&& (2147483647 : Int32)) % (7 : Int32)) ((i2 &&& (2147483647 : Int32)) % (7 : Int32))) ∨ v32_4_s0 = (own_hi ((i1 &&& (2147483647 : Int32)) % (7 : Int32)) ((i2 &&& (2147483647 : Int32)) % (7 : Int32))) := hpl.1
        have Zq10 : n0 ≤ h9.size := (Nat.le_trans (Nat.le_trans (Nat.le_trans Z0 E7.1) K8.1) E9.1)
        obtain ⟨_, _, ⟨T10, L10, k10, n10⟩, -, X10, ⟨Lc10, hQ10, l10, y10, z10⟩, st10⟩ := X9.specialBack hx (y := (⟨"com/example/kostyashki/kostyashki/round/Placement", "<init>", "(Lcom/example/kostyashki/kostyashki/tiles/Tile;I)V"⟩ : MethodName)) rfl hown (mvT hZ (hw _ (List.mem_of_getElem? (i := 22) rfl))) (mvT hZ (hw _ (List.mem_of_getElem? (i := 23) rfl))) (mvT hZ (hw _ (List.mem_of_getElem? (i := 24) rfl))) (by decide) (backOf (W := 1) (rm4 l Z a0 hw [] b9 b7 v32_4_s0 .null (.int (0 : Int32)) (own_lo ((i1 &&& (2147483647 : Int32)) % (7 : Int32)) ((i2 &&& (2147483647 : Int32)) % (7 : Int32))) (own_hi ((i1 &&& (2147483647 : Int32)) % (7 : Int32)) ((i2 &&& (2147483647 : Int32)) % (7 : Int32))) h9 n0 Zq10 A9 F_tile_b9 F_touching_b9 g_b9 (P8_0.ext E9) (P8_1.ext E9) (P8_2.ext E9) hp10_hpO) hZ (hw _ (List.mem_of_getElem? (i := 24) rfl)) (hw _ (List.mem_of_getElem? (i := 21) rfl)) (by decide) (by decide)) (g := (mkF m 76 #[.val (.int i1), .val (.int i2), .val (.int i3), .val (.int ((i1 &&& (2147483647 : Int32)) % (7 : Int32))), .val (.int ((i2 &&& (2147483647 : Int32)) % (7 : Int32))), .val (.int v20_2_s0), .val (.int v32_4_s0), .val (.int v45_6_s0), .val (.ref b7), .unset, .unset] [(.int v32_4_s0), (.ref b7), (.ref b9), (.ref b9)])) rfl (by rw [hml]; rfl) (Steps.refl _) (a := b9) (argsL := [(.ref b7), (.int v32_4_s0)]) (rest := [(.ref b9)]) (lenOf pd_3 rfl) rfl (by show 2 * 0 + _ ≤ _; exact Nat.le_of_eq rfl) (hb hby at_76) (fun _ _ => ⟨rfl, e9, (by decide : 2 + 0 ≤ _), (by decide : 4 + 0 ≤ _)⟩)
        dsimp only [Pt.U, Pt.locs, Pt.cells, Pt.slots] at X10 l10 y10 z10 st10 hQ10
        subst l10 y10 z10
        obtain ⟨rfl, Nq10, K10, P10_0, P10_1, P10_2⟩ := hQ10
        obtain ⟨Lo10, X10, N10⟩ : ∃ K, Stand p l e room_1 s m #[(.int i1), (.int i2), (.int i3)] below meth c T10 K 2 4 ∧ Fr n0 K := ⟨_, X10, (Fr.app N8 Nq10)⟩
        refine own_jump (f' := (mkF m 79 #[.val (.int i1), .val (.int i2), .val (.int i3), .val (.int ((i1 &&& (2147483647 : Int32)) % (7 : Int32))), .val (.int ((i2 &&& (2147483647 : Int32)) % (7 : Int32))), .val (.int v20_2_s0), .val (.int v32_4_s0), .val (.int v45_6_s0), .val (.ref b7), .unset, .unset] [(.ref b9)])) st10 ?_
        refine own_step (f' := (mkF m 81 #[.val (.int i1), .val (.int i2), .val (.int i3), .val (.int ((i1 &&& (2147483647 : Int32)) % (7 : Int32))), .val (.int ((i2 &&& (2147483647 : Int32)) % (7 : Int32))), .val (.int v20_2_s0), .val (.int v32_4_s0), .val (.int v45_6_s0), .val (.ref b7), .val (.ref b9), .unset] [])) (fun _ k => XS.astore X10.here hx rfl (hb hby at_79) rfl rfl (l' := #[.val (.int i1), .val (.int i2), .val (.int i3), .val (.int ((i1 &&& (2147483647 : Int32)) % (7 : Int32))), .val (.int ((i2 &&& (2147483647 : Int32)) % (7 : Int32))), .val (.int v20_2_s0), .val (.int v32_4_s0), .val (.int v45_6_s0), .val (.ref b7), .val (.ref b9), .unset]) rfl k) ?_
        refine own_step (f' := (mkF m 83 #[.val (.int i1), .val (.int i2), .val (.int i3), .val (.int ((i1 &&& (2147483647 : Int32)) % (7 : Int32))), .val (.int ((i2 &&& (2147483647 : Int32)) % (7 : Int32))), .val (.int v20_2_s0), .val (.int v32_4_s0), .val (.int v45_6_s0), .val (.ref b7), .val (.ref b9), .unset] [(.ref b9)])) (fun _ k => XS.aload X10.here hx rfl (hb hby at_81) rfl rfl k) ?_
        have Zq11 : n0 ≤ T10.heap.size := (Nat.le_trans (Nat.le_trans (Nat.le_trans (Nat.le_trans Z0 E7.1) K8.1) E9.1) K10.1)
        obtain ⟨cq11, kq11, q11a, q11b, q11c⟩ := isOf hZ rfl P10_0
        obtain ⟨_, _, ⟨T11, L11, k11, n11⟩, -, X11, ⟨Lc11, hQ11, l11, y11, z11⟩, st11⟩ := X10.virtualBack hx (y := (⟨"com/example/kostyashki/kostyashki/round/Placement", "other", "()I"⟩ : MethodName)) (z := (⟨"com/example/kostyashki/kostyashki/round/Placement", "other", "()I"⟩ : MethodName)) hown (mvT hZ (hw _ (List.mem_of_getElem? (i := 40) rfl))) (mvT hZ (hw _ (List.mem_of_getElem? (i := 41) rfl))) (notFace_of_selects (args := #[]) (mvT hZ (hw _ (List.mem_of_getElem? (i := 43) rfl)))) (mvT hZ (hw _ (List.mem_of_getElem? (i := 43) rfl))) (mvT hZ (hw _ (List.mem_of_getElem? (i := 42) rfl))) (by decide) (backOf (W := 0) (rm7 l Z a0 hw [] b9 b7 v32_4_s0 (own_lo ((i1 &&& (2147483647 : Int32)) % (7 : Int32)) ((i2 &&& (2147483647 : Int32)) % (7 : Int32))) (own_hi ((i1 &&& (2147483647 : Int32)) % (7 : Int32)) ((i2 &&& (2147483647 : Int32)) % (7 : Int32))) T10.heap n0 Zq11 P10_1 P10_2 ((P8_0.ext E9).keep K10) ((P8_1.ext E9).keep K10 (ninS ne_b7_b9 nin0)) ((P8_2.ext E9).keep K10 (ninS ne_b7_b9 nin0))) hZ (hw _ (List.mem_of_getElem? (i := 44) rfl)) (hw _ (List.mem_of_getElem? (i := 21) rfl)) (by decide) (by decide)) q11a q11c (g := (mkF m 83 #[.val (.int i1), .val (.int i2), .val (.int i3), .val (.int ((i1 &&& (2147483647 : Int32)) % (7 : Int32))), .val (.int ((i2 &&& (2147483647 : Int32)) % (7 : Int32))), .val (.int v20_2_s0), .val (.int v32_4_s0), .val (.int v45_6_s0), .val (.ref b7), .val (.ref b9), .unset] [(.ref b9)])) rfl (by rw [hml]; rfl) (Steps.refl _) (argsL := []) (rest := []) (lenOf pd_1 rfl) rfl (by show 2 * 0 + _ ≤ _; exact Nat.le_of_eq rfl) (hb hby at_83) (fun _ _ => ⟨rfl, rfl, (by decide : 2 + 0 ≤ _), (by decide : 4 + 0 ≤ _)⟩)
        dsimp only [Pt.U, Pt.locs, Pt.cells, Pt.slots] at X11 l11 y11 z11 st11 hQ11
        subst l11 y11 z11
        obtain ⟨rfl, rfl, e11⟩ := hQ11
        try rw [List.append_nil] at X11
        refine own_jump (f' := (mkF m 86 #[.val (.int i1), .val (.int i2), .val (.int i3), .val (.int ((i1 &&& (2147483647 : Int32)) % (7 : Int32))), .val (.int ((i2 &&& (2147483647 : Int32)) % (7 : Int32))), .val (.int v20_2_s0), .val (.int v32_4_s0), .val (.int v45_6_s0), .val (.ref b7), .val (.ref b9), .unset] [(.int (((own_lo ((i1 &&& (2147483647 : Int32)) % (7 : Int32)) ((i2 &&& (2147483647 : Int32)) % (7 : Int32))) + (own_hi ((i1 &&& (2147483647 : Int32)) % (7 : Int32)) ((i2 &&& (2147483647 : Int32)) % (7 : Int32)))) - v32_4_s0))])) st11 ?_
        refine own_step (f' := (mkF m 88 #[.val (.int i1), .val (.int i2), .val (.int i3), .val (.int ((i1 &&& (2147483647 : Int32)) % (7 : Int32))), .val (.int ((i2 &&& (2147483647 : Int32)) % (7 : Int32))), .val (.int v20_2_s0), .val (.int v32_4_s0), .val (.int v45_6_s0), .val (.ref b7), .val (.ref b9), .val (.int (((own_lo ((i1 &&& (2147483647 : Int32)) % (7 : Int32)) ((i2 &&& (2147483647 : Int32)) % (7 : Int32))) + (own_hi ((i1 &&& (2147483647 : Int32)) % (7 : Int32)) ((i2 &&& (2147483647 : Int32)) % (7 : Int32)))) - v32_4_s0))] [])) (fun _ k => XS.istore X11.here hx rfl (hb hby at_86) rfl (l' := #[.val (.int i1), .val (.int i2), .val (.int i3), .val (.int ((i1 &&& (2147483647 : Int32)) % (7 : Int32))), .val (.int ((i2 &&& (2147483647 : Int32)) % (7 : Int32))), .val (.int v20_2_s0), .val (.int v32_4_s0), .val (.int v45_6_s0), .val (.ref b7), .val (.ref b9), .val (.int (((own_lo ((i1 &&& (2147483647 : Int32)) % (7 : Int32)) ((i2 &&& (2147483647 : Int32)) % (7 : Int32))) + (own_hi ((i1 &&& (2147483647 : Int32)) % (7 : Int32)) ((i2 &&& (2147483647 : Int32)) % (7 : Int32)))) - v32_4_s0))]) rfl k) ?_
        refine own_step (f' := (mkF m 90 #[.val (.int i1), .val (.int i2), .val (.int i3), .val (.int ((i1 &&& (2147483647 : Int32)) % (7 : Int32))), .val (.int ((i2 &&& (2147483647 : Int32)) % (7 : Int32))), .val (.int v20_2_s0), .val (.int v32_4_s0), .val (.int v45_6_s0), .val (.ref b7), .val (.ref b9), .val (.int (((own_lo ((i1 &&& (2147483647 : Int32)) % (7 : Int32)) ((i2 &&& (2147483647 : Int32)) % (7 : Int32))) + (own_hi ((i1 &&& (2147483647 : Int32)) % (7 : Int32)) ((i2 &&& (2147483647 : Int32)) % (7 : Int32)))) - v32_4_s0))] [(.int (((own_lo ((i1 &&& (2147483647 : Int32)) % (7 : Int32)) ((i2 &&& (2147483647 : Int32)) % (7 : Int32))) + (own_hi ((i1 &&& (2147483647 : Int32)) % (7 : Int32)) ((i2 &&& (2147483647 : Int32)) % (7 : Int32)))) - v32_4_s0))])) (fun _ k => XS.iload X11.here hx rfl (hb hby at_88) rfl k) ?_
        refine own_step (f' := (mkF m 92 #[.val (.int i1), .val (.int i2), .val (.int i3), .val (.int ((i1 &&& (2147483647 : Int32)) % (7 : Int32))), .val (.int ((i2 &&& (2147483647 : Int32)) % (7 : Int32))), .val (.int v20_2_s0), .val (.int v32_4_s0), .val (.int v45_6_s0), .val (.ref b7), .val (.ref b9), .val (.int (((own_lo ((i1 &&& (2147483647 : Int32)) % (7 : Int32)) ((i2 &&& (2147483647 : Int32)) % (7 : Int32))) + (own_hi ((i1 &&& (2147483647 : Int32)) % (7 : Int32)) ((i2 &&& (2147483647 : Int32)) % (7 : Int32)))) - v32_4_s0))] [(.int v45_6_s0), (.int (((own_lo ((i1 &&& (2147483647 : Int32)) % (7 : Int32)) ((i2 &&& (2147483647 : Int32)) % (7 : Int32))) + (own_hi ((i1 &&& (2147483647 : Int32)) % (7 : Int32)) ((i2 &&& (2147483647 : Int32)) % (7 : Int32)))) - v32_4_s0))])) (fun _ k => XS.iload X11.here hx rfl (hb hby at_90) rfl k) ?_
        have hf92_12 : (((own_lo ((i1 &&& (2147483647 : Int32)) % (7 : Int32)) ((i2 &&& (2147483647 : Int32)) % (7 : Int32))) + (own_hi ((i1 &&& (2147483647 : Int32)) % (7 : Int32)) ((i2 &&& (2147483647 : Int32)) % (7 : Int32)))) - v32_4_s0) = v45_6_s0 := hpl.2.1
        refine own_step (f' := (mkF m 95 #[.val (.int i1), .val (.int i2), .val (.int i3), .val (.int ((i1 &&& (2147483647 : Int32)) % (7 : Int32))), .val (.int ((i2 &&& (2147483647 : Int32)) % (7 : Int32))), .val (.int v20_2_s0), .val (.int v32_4_s0), .val (.int v45_6_s0), .val (.ref b7), .val (.ref b9), .val (.int (((own_lo ((i1 &&& (2147483647 : Int32)) % (7 : Int32)) ((i2 &&& (2147483647 : Int32)) % (7 : Int32))) + (own_hi ((i1 &&& (2147483647 : Int32)) % (7 : Int32)) ((i2 &&& (2147483647 : Int32)) % (7 : Int32)))) - v32_4_s0))] [])) (fun _ k => XS.icmpNo X11.here hx rfl (hb hby at_92) rfl (teq hf92_12).2 k) ?_
        refine own_step (f' := (mkF m 97 #[.val (.int i1), .val (.int i2), .val (.int i3), .val (.int ((i1 &&& (2147483647 : Int32)) % (7 : Int32))), .val (.int ((i2 &&& (2147483647 : Int32)) % (7 : Int32))), .val (.int v20_2_s0), .val (.int v32_4_s0), .val (.int v45_6_s0), .val (.ref b7), .val (.ref b9), .val (.int (((own_lo ((i1 &&& (2147483647 : Int32)) % (7 : Int32)) ((i2 &&& (2147483647 : Int32)) % (7 : Int32))) + (own_hi ((i1 &&& (2147483647 : Int32)) % (7 : Int32)) ((i2 &&& (2147483647 : Int32)) % (7 : Int32)))) - v32_4_s0))] [(.int v32_4_s0)])) (fun _ k => XS.iload X11.here hx rfl (hb hby at_95) rfl k) ?_
        refine own_step (f' := (mkF m 99 #[.val (.int i1), .val (.int i2), .val (.int i3), .val (.int ((i1 &&& (2147483647 : Int32)) % (7 : Int32))), .val (.int ((i2 &&& (2147483647 : Int32)) % (7 : Int32))), .val (.int v20_2_s0), .val (.int v32_4_s0), .val (.int v45_6_s0), .val (.ref b7), .val (.ref b9), .val (.int (((own_lo ((i1 &&& (2147483647 : Int32)) % (7 : Int32)) ((i2 &&& (2147483647 : Int32)) % (7 : Int32))) + (own_hi ((i1 &&& (2147483647 : Int32)) % (7 : Int32)) ((i2 &&& (2147483647 : Int32)) % (7 : Int32)))) - v32_4_s0))] [(.int (((own_lo ((i1 &&& (2147483647 : Int32)) % (7 : Int32)) ((i2 &&& (2147483647 : Int32)) % (7 : Int32))) + (own_hi ((i1 &&& (2147483647 : Int32)) % (7 : Int32)) ((i2 &&& (2147483647 : Int32)) % (7 : Int32)))) - v32_4_s0)), (.int v32_4_s0)])) (fun _ k => XS.iload X11.here hx rfl (hb hby at_97) rfl k) ?_
        have Zq13 : n0 ≤ T10.heap.size := (Nat.le_trans (Nat.le_trans (Nat.le_trans (Nat.le_trans Z0 E7.1) K8.1) E9.1) K10.1)
        obtain ⟨_, _, ⟨T13, L13, k13, n13⟩, -, X13, ⟨Lc13, hQ13, l13, y13, z13⟩, st13⟩ := Jvm.LawKit.callS X11 hx (y := (⟨"java/lang/Math", "min", "(II)I"⟩ : MethodName)) hown (mvT hZ (hw _ (List.mem_of_getElem? (i := 45) rfl))) (mvT hZ (hw _ (List.mem_of_getElem? (i := 46) rfl))) (mvT hZ (hw _ (List.mem_of_getElem? (i := 47) rfl))) (mvT hZ (hw _ (List.mem_of_getElem? (i := 48) rfl))) (by decide) (backOf (W := 0) (rm8 l Z a0 hw [] v32_4_s0 (((own_lo ((i1 &&& (2147483647 : Int32)) % (7 : Int32)) ((i2 &&& (2147483647 : Int32)) % (7 : Int32))) + (own_hi ((i1 &&& (2147483647 : Int32)) % (7 : Int32)) ((i2 &&& (2147483647 : Int32)) % (7 : Int32)))) - v32_4_s0) T10.heap n0 Zq13 ) hZ (hw _ (List.mem_of_getElem? (i := 48) rfl)) (hw _ (List.mem_of_getElem? (i := 47) rfl)) (by decide) (by decide)) (g := (mkF m 99 #[.val (.int i1), .val (.int i2), .val (.int i3), .val (.int ((i1 &&& (2147483647 : Int32)) % (7 : Int32))), .val (.int ((i2 &&& (2147483647 : Int32)) % (7 : Int32))), .val (.int v20_2_s0), .val (.int v32_4_s0), .val (.int v45_6_s0), .val (.ref b7), .val (.ref b9), .val (.int (((own_lo ((i1 &&& (2147483647 : Int32)) % (7 : Int32)) ((i2 &&& (2147483647 : Int32)) % (7 : Int32))) + (own_hi ((i1 &&& (2147483647 : Int32)) % (7 : Int32)) ((i2 &&& (2147483647 : Int32)) % (7 : Int32)))) - v32_4_s0))] [(.int (((own_lo ((i1 &&& (2147483647 : Int32)) % (7 : Int32)) ((i2 &&& (2147483647 : Int32)) % (7 : Int32))) + (own_hi ((i1 &&& (2147483647 : Int32)) % (7 : Int32)) ((i2 &&& (2147483647 : Int32)) % (7 : Int32)))) - v32_4_s0)), (.int v32_4_s0)])) rfl (by rw [hml]; rfl) (argsL := [(.int v32_4_s0), (.int (((own_lo ((i1 &&& (2147483647 : Int32)) % (7 : Int32)) ((i2 &&& (2147483647 : Int32)) % (7 : Int32))) + (own_hi ((i1 &&& (2147483647 : Int32)) % (7 : Int32)) ((i2 &&& (2147483647 : Int32)) % (7 : Int32)))) - v32_4_s0))]) (rest := []) (lenOf pd_4 rfl) rfl (by show 2 * 0 + _ ≤ _; exact Nat.le_of_eq rfl) (hb hby at_99) (fun _ _ => ⟨rfl, e11, (by decide : 2 + 0 ≤ _), (by decide : 4 + 0 ≤ _)⟩)
        dsimp only [Pt.U, Pt.locs, Pt.cells, Pt.slots] at X13 l13 y13 z13 st13 hQ13
        subst l13 y13 z13
        obtain ⟨rfl, rfl, e13⟩ := hQ13
        try rw [List.append_nil] at X13
        refine own_step (f' := (mkF m 102 #[.val (.int i1), .val (.int i2), .val (.int i3), .val (.int ((i1 &&& (2147483647 : Int32)) % (7 : Int32))), .val (.int ((i2 &&& (2147483647 : Int32)) % (7 : Int32))), .val (.int v20_2_s0), .val (.int v32_4_s0), .val (.int v45_6_s0), .val (.ref b7), .val (.ref b9), .val (.int (((own_lo ((i1 &&& (2147483647 : Int32)) % (7 : Int32)) ((i2 &&& (2147483647 : Int32)) % (7 : Int32))) + (own_hi ((i1 &&& (2147483647 : Int32)) % (7 : Int32)) ((i2 &&& (2147483647 : Int32)) % (7 : Int32)))) - v32_4_s0))] [(.int (own_min v32_4_s0 (((own_lo ((i1 &&& (2147483647 : Int32)) % (7 : Int32)) ((i2 &&& (2147483647 : Int32)) % (7 : Int32))) + (own_hi ((i1 &&& (2147483647 : Int32)) % (7 : Int32)) ((i2 &&& (2147483647 : Int32)) % (7 : Int32)))) - v32_4_s0)))])) st13 ?_
        refine own_step (f' := (mkF m 104 #[.val (.int i1), .val (.int i2), .val (.int i3), .val (.int ((i1 &&& (2147483647 : Int32)) % (7 : Int32))), .val (.int ((i2 &&& (2147483647 : Int32)) % (7 : Int32))), .val (.int v20_2_s0), .val (.int v32_4_s0), .val (.int v45_6_s0), .val (.ref b7), .val (.ref b9), .val (.int (((own_lo ((i1 &&& (2147483647 : Int32)) % (7 : Int32)) ((i2 &&& (2147483647 : Int32)) % (7 : Int32))) + (own_hi ((i1 &&& (2147483647 : Int32)) % (7 : Int32)) ((i2 &&& (2147483647 : Int32)) % (7 : Int32)))) - v32_4_s0))] [(.ref b7), (.int (own_min v32_4_s0 (((own_lo ((i1 &&& (2147483647 : Int32)) % (7 : Int32)) ((i2 &&& (2147483647 : Int32)) % (7 : Int32))) + (own_hi ((i1 &&& (2147483647 : Int32)) % (7 : Int32)) ((i2 &&& (2147483647 : Int32)) % (7 : Int32)))) - v32_4_s0)))])) (fun _ k => XS.aload X13.here hx rfl (hb hby at_102) rfl rfl k) ?_
        have Zq14 : n0 ≤ T10.heap.size := (Nat.le_trans (Nat.le_trans (Nat.le_trans (Nat.le_trans Z0 E7.1) K8.1) E9.1) K10.1)
        obtain ⟨cq14, kq14, q14a, q14b, q14c⟩ := isOf hZ e13 ((P8_0.ext E9).keep K10)
        obtain ⟨_, _, ⟨T14, L14, k14, n14⟩, -, X14, ⟨Lc14, hQ14, l14, y14, z14⟩, st14⟩ := X13.virtualBack hx (y := (⟨"com/example/kostyashki/kostyashki/tiles/Tile", "low", "()I"⟩ : MethodName)) (z := (⟨"com/example/kostyashki/kostyashki/tiles/Tile", "low", "()I"⟩ : MethodName)) hown (mvT hZ (hw _ (List.mem_of_getElem? (i := 49) rfl))) (mvT hZ (hw _ (List.mem_of_getElem? (i := 27) rfl))) (notFace_of_selects (args := #[]) (mvT hZ (hw _ (List.mem_of_getElem? (i := 29) rfl)))) (mvT hZ (hw _ (List.mem_of_getElem? (i := 29) rfl))) (mvT hZ (hw _ (List.mem_of_getElem? (i := 28) rfl))) (by decide) (backOf (W := 1) (rm5 l Z a0 hw [] b7 (own_lo ((i1 &&& (2147483647 : Int32)) % (7 : Int32)) ((i2 &&& (2147483647 : Int32)) % (7 : Int32))) T10.heap n0 Zq14 ((P8_1.ext E9).keep K10 (ninS ne_b7_b9 nin0))) hZ (hw _ (List.mem_of_getElem? (i := 30) rfl)) (hw _ (List.mem_of_getElem? (i := 3) rfl)) (by decide) (by decide)) q14a q14c (g := (mkF m 104 #[.val (.int i1), .val (.int i2), .val (.int i3), .val (.int ((i1 &&& (2147483647 : Int32)) % (7 : Int32))), .val (.int ((i2 &&& (2147483647 : Int32)) % (7 : Int32))), .val (.int v20_2_s0), .val (.int v32_4_s0), .val (.int v45_6_s0), .val (.ref b7), .val (.ref b9), .val (.int (((own_lo ((i1 &&& (2147483647 : Int32)) % (7 : Int32)) ((i2 &&& (2147483647 : Int32)) % (7 : Int32))) + (own_hi ((i1 &&& (2147483647 : Int32)) % (7 : Int32)) ((i2 &&& (2147483647 : Int32)) % (7 : Int32)))) - v32_4_s0))] [(.ref b7), (.int (own_min v32_4_s0 (((own_lo ((i1 &&& (2147483647 : Int32)) % (7 : Int32)) ((i2 &&& (2147483647 : Int32)) % (7 : Int32))) + (own_hi ((i1 &&& (2147483647 : Int32)) % (7 : Int32)) ((i2 &&& (2147483647 : Int32)) % (7 : Int32)))) - v32_4_s0)))])) rfl (by rw [hml]; rfl) (Steps.refl _) (argsL := []) (rest := [(.int (own_min v32_4_s0 (((own_lo ((i1 &&& (2147483647 : Int32)) % (7 : Int32)) ((i2 &&& (2147483647 : Int32)) % (7 : Int32))) + (own_hi ((i1 &&& (2147483647 : Int32)) % (7 : Int32)) ((i2 &&& (2147483647 : Int32)) % (7 : Int32)))) - v32_4_s0)))]) (lenOf pd_1 rfl) rfl (by show 2 * 0 + _ ≤ _; exact Nat.le_of_eq rfl) (hb hby at_104) (fun _ _ => ⟨rfl, e13, (by decide : 2 + 0 ≤ _), (by decide : 4 + 0 ≤ _)⟩)
        dsimp only [Pt.U, Pt.locs, Pt.cells, Pt.slots] at X14 l14 y14 z14 st14 hQ14
        subst l14 y14 z14
        obtain ⟨rfl, rfl, e14⟩ := hQ14
        try rw [List.append_nil] at X14
        refine own_jump (f' := (mkF m 107 #[.val (.int i1), .val (.int i2), .val (.int i3), .val (.int ((i1 &&& (2147483647 : Int32)) % (7 : Int32))), .val (.int ((i2 &&& (2147483647 : Int32)) % (7 : Int32))), .val (.int v20_2_s0), .val (.int v32_4_s0), .val (.int v45_6_s0), .val (.ref b7), .val (.ref b9), .val (.int (((own_lo ((i1 &&& (2147483647 : Int32)) % (7 : Int32)) ((i2 &&& (2147483647 : Int32)) % (7 : Int32))) + (own_hi ((i1 &&& (2147483647 : Int32)) % (7 : Int32)) ((i2 &&& (2147483647 : Int32)) % (7 : Int32)))) - v32_4_s0))] [(.int (own_lo ((i1 &&& (2147483647 : Int32)) % (7 : Int32)) ((i2 &&& (2147483647 : Int32)) % (7 : Int32)))), (.int (own_min v32_4_s0 (((own_lo ((i1 &&& (2147483647 : Int32)) % (7 : Int32)) ((i2 &&& (2147483647 : Int32)) % (7 : Int32))) + (own_hi ((i1 &&& (2147483647 : Int32)) % (7 : Int32)) ((i2 &&& (2147483647 : Int32)) % (7 : Int32)))) - v32_4_s0)))])) st14 ?_
        have hf107_15 : (own_min v32_4_s0 (((own_lo ((i1 &&& (2147483647 : Int32)) % (7 : Int32)) ((i2 &&& (2147483647 : Int32)) % (7 : Int32))) + (own_hi ((i1 &&& (2147483647 : Int32)) % (7 : Int32)) ((i2 &&& (2147483647 : Int32)) % (7 : Int32)))) - v32_4_s0)) = (own_lo ((i1 &&& (2147483647 : Int32)) % (7 : Int32)) ((i2 &&& (2147483647 : Int32)) % (7 : Int32))) := hpl.2.2.1
        refine own_step (f' := (mkF m 110 #[.val (.int i1), .val (.int i2), .val (.int i3), .val (.int ((i1 &&& (2147483647 : Int32)) % (7 : Int32))), .val (.int ((i2 &&& (2147483647 : Int32)) % (7 : Int32))), .val (.int v20_2_s0), .val (.int v32_4_s0), .val (.int v45_6_s0), .val (.ref b7), .val (.ref b9), .val (.int (((own_lo ((i1 &&& (2147483647 : Int32)) % (7 : Int32)) ((i2 &&& (2147483647 : Int32)) % (7 : Int32))) + (own_hi ((i1 &&& (2147483647 : Int32)) % (7 : Int32)) ((i2 &&& (2147483647 : Int32)) % (7 : Int32)))) - v32_4_s0))] [])) (fun _ k => XS.icmpNo X14.here hx rfl (hb hby at_107) rfl (teq hf107_15).2 k) ?_
        refine own_step (f' := (mkF m 112 #[.val (.int i1), .val (.int i2), .val (.int i3), .val (.int ((i1 &&& (2147483647 : Int32)) % (7 : Int32))), .val (.int ((i2 &&& (2147483647 : Int32)) % (7 : Int32))), .val (.int v20_2_s0), .val (.int v32_4_s0), .val (.int v45_6_s0), .val (.ref b7), .val (.ref b9), .val (.int (((own_lo ((i1 &&& (2147483647 : Int32)) % (7 : Int32)) ((i2 &&& (2147483647 : Int32)) % (7 : Int32))) + (own_hi ((i1 &&& (2147483647 : Int32)) % (7 : Int32)) ((i2 &&& (2147483647 : Int32)) % (7 : Int32)))) - v32_4_s0))] [(.int v32_4_s0)])) (fun _ k => XS.iload X14.here hx rfl (hb hby at_110) rfl k) ?_
        refine own_step (f' := (mkF m 114 #[.val (.int i1), .val (.int i2), .val (.int i3), .val (.int ((i1 &&& (2147483647 : Int32)) % (7 : Int32))), .val (.int ((i2 &&& (2147483647 : Int32)) % (7 : Int32))), .val (.int v20_2_s0), .val (.int v32_4_s0), .val (.int v45_6_s0), .val (.ref b7), .val (.ref b9), .val (.int (((own_lo ((i1 &&& (2147483647 : Int32)) % (7 : Int32)) ((i2 &&& (2147483647 : Int32)) % (7 : Int32))) + (own_hi ((i1 &&& (2147483647 : Int32)) % (7 : Int32)) ((i2 &&& (2147483647 : Int32)) % (7 : Int32)))) - v32_4_s0))] [(.int (((own_lo ((i1 &&& (2147483647 : Int32)) % (7 : Int32)) ((i2 &&& (2147483647 : Int32)) % (7 : Int32))) + (own_hi ((i1 &&& (2147483647 : Int32)) % (7 : Int32)) ((i2 &&& (2147483647 : Int32)) % (7 : Int32)))) - v32_4_s0)), (.int v32_4_s0)])) (fun _ k => XS.iload X14.here hx rfl (hb hby at_112) rfl k) ?_
        have Zq16 : n0 ≤ T10.heap.size := (Nat.le_trans (Nat.le_trans (Nat.le_trans (Nat.le_trans Z0 E7.1) K8.1) E9.1) K10.1)
        obtain ⟨_, _, ⟨T16, L16, k16, n16⟩, -, X16, ⟨Lc16, hQ16, l16, y16, z16⟩, st16⟩ := Jvm.LawKit.callS X14 hx (y := (⟨"java/lang/Math", "max", "(II)I"⟩ : MethodName)) hown (mvT hZ (hw _ (List.mem_of_getElem? (i := 50) rfl))) (mvT hZ (hw _ (List.mem_of_getElem? (i := 51) rfl))) (mvT hZ (hw _ (List.mem_of_getElem? (i := 47) rfl))) (mvT hZ (hw _ (List.mem_of_getElem? (i := 52) rfl))) (by decide) (backOf (W := 0) (rm9 l Z a0 hw [] v32_4_s0 (((own_lo ((i1 &&& (2147483647 : Int32)) % (7 : Int32)) ((i2 &&& (2147483647 : Int32)) % (7 : Int32))) + (own_hi ((i1 &&& (2147483647 : Int32)) % (7 : Int32)) ((i2 &&& (2147483647 : Int32)) % (7 : Int32)))) - v32_4_s0) T10.heap n0 Zq16 ) hZ (hw _ (List.mem_of_getElem? (i := 52) rfl)) (hw _ (List.mem_of_getElem? (i := 47) rfl)) (by decide) (by decide)) (g := (mkF m 114 #[.val (.int i1), .val (.int i2), .val (.int i3), .val (.int ((i1 &&& (2147483647 : Int32)) % (7 : Int32))), .val (.int ((i2 &&& (2147483647 : Int32)) % (7 : Int32))), .val (.int v20_2_s0), .val (.int v32_4_s0), .val (.int v45_6_s0), .val (.ref b7), .val (.ref b9), .val (.int (((own_lo ((i1 &&& (2147483647 : Int32)) % (7 : Int32)) ((i2 &&& (2147483647 : Int32)) % (7 : Int32))) + (own_hi ((i1 &&& (2147483647 : Int32)) % (7 : Int32)) ((i2 &&& (2147483647 : Int32)) % (7 : Int32)))) - v32_4_s0))] [(.int (((own_lo ((i1 &&& (2147483647 : Int32)) % (7 : Int32)) ((i2 &&& (2147483647 : Int32)) % (7 : Int32))) + (own_hi ((i1 &&& (2147483647 : Int32)) % (7 : Int32)) ((i2 &&& (2147483647 : Int32)) % (7 : Int32)))) - v32_4_s0)), (.int v32_4_s0)])) rfl (by rw [hml]; rfl) (argsL := [(.int v32_4_s0), (.int (((own_lo ((i1 &&& (2147483647 : Int32)) % (7 : Int32)) ((i2 &&& (2147483647 : Int32)) % (7 : Int32))) + (own_hi ((i1 &&& (2147483647 : Int32)) % (7 : Int32)) ((i2 &&& (2147483647 : Int32)) % (7 : Int32)))) - v32_4_s0))]) (rest := []) (lenOf pd_4 rfl) rfl (by show 2 * 0 + _ ≤ _; exact Nat.le_of_eq rfl) (hb hby at_114) (fun _ _ => ⟨rfl, e14, (by decide : 2 + 0 ≤ _), (by decide : 4 + 0 ≤ _)⟩)
        dsimp only [Pt.U, Pt.locs, Pt.cells, Pt.slots] at X16 l16 y16 z16 st16 hQ16
        subst l16 y16 z16
        obtain ⟨rfl, rfl, e16⟩ := hQ16
        try rw [List.append_nil] at X16
        refine own_step (f' := (mkF m 117 #[.val (.int i1), .val (.int i2), .val (.int i3), .val (.int ((i1 &&& (2147483647 : Int32)) % (7 : Int32))), .val (.int ((i2 &&& (2147483647 : Int32)) % (7 : Int32))), .val (.int v20_2_s0), .val (.int v32_4_s0), .val (.int v45_6_s0), .val (.ref b7), .val (.ref b9), .val (.int (((own_lo ((i1 &&& (2147483647 : Int32)) % (7 : Int32)) ((i2 &&& (2147483647 : Int32)) % (7 : Int32))) + (own_hi ((i1 &&& (2147483647 : Int32)) % (7 : Int32)) ((i2 &&& (2147483647 : Int32)) % (7 : Int32)))) - v32_4_s0))] [(.int (own_max v32_4_s0 (((own_lo ((i1 &&& (2147483647 : Int32)) % (7 : Int32)) ((i2 &&& (2147483647 : Int32)) % (7 : Int32))) + (own_hi ((i1 &&& (2147483647 : Int32)) % (7 : Int32)) ((i2 &&& (2147483647 : Int32)) % (7 : Int32)))) - v32_4_s0)))])) st16 ?_
        refine own_step (f' := (mkF m 119 #[.val (.int i1), .val (.int i2), .val (.int i3), .val (.int ((i1 &&& (2147483647 : Int32)) % (7 : Int32))), .val (.int ((i2 &&& (2147483647 : Int32)) % (7 : Int32))), .val (.int v20_2_s0), .val (.int v32_4_s0), .val (.int v45_6_s0), .val (.ref b7), .val (.ref b9), .val (.int (((own_lo ((i1 &&& (2147483647 : Int32)) % (7 : Int32)) ((i2 &&& (2147483647 : Int32)) % (7 : Int32))) + (own_hi ((i1 &&& (2147483647 : Int32)) % (7 : Int32)) ((i2 &&& (2147483647 : Int32)) % (7 : Int32)))) - v32_4_s0))] [(.ref b7), (.int (own_max v32_4_s0 (((own_lo ((i1 &&& (2147483647 : Int32)) % (7 : Int32)) ((i2 &&& (2147483647 : Int32)) % (7 : Int32))) + (own_hi ((i1 &&& (2147483647 : Int32)) % (7 : Int32)) ((i2 &&& (2147483647 : Int32)) % (7 : Int32)))) - v32_4_s0)))])) (fun _ k => XS.aload X16.here hx rfl (hb hby at_117) rfl rfl k) ?_
        have Zq17 : n0 ≤ T10.heap.size := (Nat.le_trans (Nat.le_trans (Nat.le_trans (Nat.le_trans Z0 E7.1) K8.1) E9.1) K10.1)
        obtain ⟨cq17, kq17, q17a, q17b, q17c⟩ := isOf hZ e16 ((P8_0.ext E9).keep K10)
        obtain ⟨_, _, ⟨T17, L17, k17, n17⟩, -, X17, ⟨Lc17, hQ17, l17, y17, z17⟩, st17⟩ := X16.virtualBack hx (y := (⟨"com/example/kostyashki/kostyashki/tiles/Tile", "high", "()I"⟩ : MethodName)) (z := (⟨"com/example/kostyashki/kostyashki/tiles/Tile", "high", "()I"⟩ : MethodName)) hown (mvT hZ (hw _ (List.mem_of_getElem? (i := 53) rfl))) (mvT hZ (hw _ (List.mem_of_getElem? (i := 32) rfl))) (notFace_of_selects (args := #[]) (mvT hZ (hw _ (List.mem_of_getElem? (i := 34) rfl)))) (mvT hZ (hw _ (List.mem_of_getElem? (i := 34) rfl))) (mvT hZ (hw _ (List.mem_of_getElem? (i := 33) rfl))) (by decide) (backOf (W := 1) (rm6 l Z a0 hw [] b7 (own_hi ((i1 &&& (2147483647 : Int32)) % (7 : Int32)) ((i2 &&& (2147483647 : Int32)) % (7 : Int32))) T10.heap n0 Zq17 ((P8_2.ext E9).keep K10 (ninS ne_b7_b9 nin0))) hZ (hw _ (List.mem_of_getElem? (i := 35) rfl)) (hw _ (List.mem_of_getElem? (i := 3) rfl)) (by decide) (by decide)) q17a q17c (g := (mkF m 119 #[.val (.int i1), .val (.int i2), .val (.int i3), .val (.int ((i1 &&& (2147483647 : Int32)) % (7 : Int32))), .val (.int ((i2 &&& (2147483647 : Int32)) % (7 : Int32))), .val (.int v20_2_s0), .val (.int v32_4_s0), .val (.int v45_6_s0), .val (.ref b7), .val (.ref b9), .val (.int (((own_lo ((i1 &&& (2147483647 : Int32)) % (7 : Int32)) ((i2 &&& (2147483647 : Int32)) % (7 : Int32))) + (own_hi ((i1 &&& (2147483647 : Int32)) % (7 : Int32)) ((i2 &&& (2147483647 : Int32)) % (7 : Int32)))) - v32_4_s0))] [(.ref b7), (.int (own_max v32_4_s0 (((own_lo ((i1 &&& (2147483647 : Int32)) % (7 : Int32)) ((i2 &&& (2147483647 : Int32)) % (7 : Int32))) + (own_hi ((i1 &&& (2147483647 : Int32)) % (7 : Int32)) ((i2 &&& (2147483647 : Int32)) % (7 : Int32)))) - v32_4_s0)))])) rfl (by rw [hml]; rfl) (Steps.refl _) (argsL := []) (rest := [(.int (own_max v32_4_s0 (((own_lo ((i1 &&& (2147483647 : Int32)) % (7 : Int32)) ((i2 &&& (2147483647 : Int32)) % (7 : Int32))) + (own_hi ((i1 &&& (2147483647 : Int32)) % (7 : Int32)) ((i2 &&& (2147483647 : Int32)) % (7 : Int32)))) - v32_4_s0)))]) (lenOf pd_1 rfl) rfl (by show 2 * 0 + _ ≤ _; exact Nat.le_of_eq rfl) (hb hby at_119) (fun _ _ => ⟨rfl, e16, (by decide : 2 + 0 ≤ _), (by decide : 4 + 0 ≤ _)⟩)
        dsimp only [Pt.U, Pt.locs, Pt.cells, Pt.slots] at X17 l17 y17 z17 st17 hQ17
        subst l17 y17 z17
        obtain ⟨rfl, rfl, e17⟩ := hQ17
        try rw [List.append_nil] at X17
        refine own_jump (f' := (mkF m 122 #[.val (.int i1), .val (.int i2), .val (.int i3), .val (.int ((i1 &&& (2147483647 : Int32)) % (7 : Int32))), .val (.int ((i2 &&& (2147483647 : Int32)) % (7 : Int32))), .val (.int v20_2_s0), .val (.int v32_4_s0), .val (.int v45_6_s0), .val (.ref b7), .val (.ref b9), .val (.int (((own_lo ((i1 &&& (2147483647 : Int32)) % (7 : Int32)) ((i2 &&& (2147483647 : Int32)) % (7 : Int32))) + (own_hi ((i1 &&& (2147483647 : Int32)) % (7 : Int32)) ((i2 &&& (2147483647 : Int32)) % (7 : Int32)))) - v32_4_s0))] [(.int (own_hi ((i1 &&& (2147483647 : Int32)) % (7 : Int32)) ((i2 &&& (2147483647 : Int32)) % (7 : Int32)))), (.int (own_max v32_4_s0 (((own_lo ((i1 &&& (2147483647 : Int32)) % (7 : Int32)) ((i2 &&& (2147483647 : Int32)) % (7 : Int32))) + (own_hi ((i1 &&& (2147483647 : Int32)) % (7 : Int32)) ((i2 &&& (2147483647 : Int32)) % (7 : Int32)))) - v32_4_s0)))])) st17 ?_
        have hf122_18 : (own_max v32_4_s0 (((own_lo ((i1 &&& (2147483647 : Int32)) % (7 : Int32)) ((i2 &&& (2147483647 : Int32)) % (7 : Int32))) + (own_hi ((i1 &&& (2147483647 : Int32)) % (7 : Int32)) ((i2 &&& (2147483647 : Int32)) % (7 : Int32)))) - v32_4_s0)) = (own_hi ((i1 &&& (2147483647 : Int32)) % (7 : Int32)) ((i2 &&& (2147483647 : Int32)) % (7 : Int32))) := hpl.2.2.2
        refine own_step (f' := (mkF m 125 #[.val (.int i1), .val (.int i2), .val (.int i3), .val (.int ((i1 &&& (2147483647 : Int32)) % (7 : Int32))), .val (.int ((i2 &&& (2147483647 : Int32)) % (7 : Int32))), .val (.int v20_2_s0), .val (.int v32_4_s0), .val (.int v45_6_s0), .val (.ref b7), .val (.ref b9), .val (.int (((own_lo ((i1 &&& (2147483647 : Int32)) % (7 : Int32)) ((i2 &&& (2147483647 : Int32)) % (7 : Int32))) + (own_hi ((i1 &&& (2147483647 : Int32)) % (7 : Int32)) ((i2 &&& (2147483647 : Int32)) % (7 : Int32)))) - v32_4_s0))] [])) (fun _ k => XS.icmpNo X17.here hx rfl (hb hby at_122) rfl (teq hf122_18).2 k) ?_
        refine own_step (f' := (mkF m 126 #[.val (.int i1), .val (.int i2), .val (.int i3), .val (.int ((i1 &&& (2147483647 : Int32)) % (7 : Int32))), .val (.int ((i2 &&& (2147483647 : Int32)) % (7 : Int32))), .val (.int v20_2_s0), .val (.int v32_4_s0), .val (.int v45_6_s0), .val (.ref b7), .val (.ref b9), .val (.int (((own_lo ((i1 &&& (2147483647 : Int32)) % (7 : Int32)) ((i2 &&& (2147483647 : Int32)) % (7 : Int32))) + (own_hi ((i1 &&& (2147483647 : Int32)) % (7 : Int32)) ((i2 &&& (2147483647 : Int32)) % (7 : Int32)))) - v32_4_s0))] [(.int (1 : Int32))])) (fun _ k => XS.iconst X17.here hx rfl (hb hby at_125) k) ?_
        refine own_step (f' := (mkF m 130 #[.val (.int i1), .val (.int i2), .val (.int i3), .val (.int ((i1 &&& (2147483647 : Int32)) % (7 : Int32))), .val (.int ((i2 &&& (2147483647 : Int32)) % (7 : Int32))), .val (.int v20_2_s0), .val (.int v32_4_s0), .val (.int v45_6_s0), .val (.ref b7), .val (.ref b9), .val (.int (((own_lo ((i1 &&& (2147483647 : Int32)) % (7 : Int32)) ((i2 &&& (2147483647 : Int32)) % (7 : Int32))) + (own_hi ((i1 &&& (2147483647 : Int32)) % (7 : Int32)) ((i2 &&& (2147483647 : Int32)) % (7 : Int32)))) - v32_4_s0))] [(.int (1 : Int32))])) (fun _ k => XS.goto X17.here hx rfl (pc0 := 126) (pc' := 130) rfl (hb hby at_126) (by decide) (by decide) k) ?_
        refine own_out (v := some (.int (1 : Int32))) X17 hlk (fun h => by rw [Bd.returns] at h; cases h) (fun fs hr => retN X17 hx (t := .boolean) Bd.returns (by simp) (hb hby at_130) hr) (by decide) (by decide) ?_
        exact ⟨rfl, N10⟩
      by_cases hc45_5 : v20_2_s0 = (0 : Int32)
      · refine own_step (f' := (mkF m 53 #[.val (.int i1), .val (.int i2), .val (.int i3), .val (.int ((i1 &&& (2147483647 : Int32)) % (7 : Int32))), .val (.int ((i2 &&& (2147483647 : Int32)) % (7 : Int32))), .val (.int v20_2_s0), .val (.int v32_4_s0), .unset, .unset, .unset, .unset] [])) (fun _ k => XS.ifYes X32_4.here hx rfl (pc0 := 45) (pc' := 53) rfl (hb hby at_45) rfl ((if0 _ _).trans (teq hc45_5).1) (by decide) (by decide) k) ?_
        refine own_step (f' := (mkF m 54 #[.val (.int i1), .val (.int i2), .val (.int i3), .val (.int ((i1 &&& (2147483647 : Int32)) % (7 : Int32))), .val (.int ((i2 &&& (2147483647 : Int32)) % (7 : Int32))), .val (.int v20_2_s0), .val (.int v32_4_s0), .unset, .unset, .unset, .unset] [(.int ((i1 &&& (2147483647 : Int32)) % (7 : Int32)))])) (fun _ k => XS.iloadN X32_4.here hx rfl (hb hby at_53) rfl k) ?_
        exact J45_6 _ ((i1 &&& (2147483647 : Int32)) % (7 : Int32)) X32_4 e32_4 (by rw [if_pos hc45_5])
      · refine own_step (f' := (mkF m 48 #[.val (.int i1), .val (.int i2), .val (.int i3), .val (.int ((i1 &&& (2147483647 : Int32)) % (7 : Int32))), .val (.int ((i2 &&& (2147483647 : Int32)) % (7 : Int32))), .val (.int v20_2_s0), .val (.int v32_4_s0), .unset, .unset, .unset, .unset] [])) (fun _ k => XS.ifNo X32_4.here hx rfl (hb hby at_45) rfl ((if0 _ _).trans (feq hc45_5).1) k) ?_
        refine own_step (f' := (mkF m 50 #[.val (.int i1), .val (.int i2), .val (.int i3), .val (.int ((i1 &&& (2147483647 : Int32)) % (7 : Int32))), .val (.int ((i2 &&& (2147483647 : Int32)) % (7 : Int32))), .val (.int v20_2_s0), .val (.int v32_4_s0), .unset, .unset, .unset, .unset] [(.int ((i2 &&& (2147483647 : Int32)) % (7 : Int32)))])) (fun _ k => XS.iload X32_4.here hx rfl (hb hby at_48) rfl k) ?_
        refine own_step (f' := (mkF m 54 #[.val (.int i1), .val (.int i2), .val (.int i3), .val (.int ((i1 &&& (2147483647 : Int32)) % (7 : Int32))), .val (.int ((i2 &&& (2147483647 : Int32)) % (7 : Int32))), .val (.int v20_2_s0), .val (.int v32_4_s0), .unset, .unset, .unset, .unset] [(.int ((i2 &&& (2147483647 : Int32)) % (7 : Int32)))])) (fun _ k => XS.goto X32_4.here hx rfl (pc0 := 50) (pc' := 54) rfl (hb hby at_50) (by decide) (by decide) k) ?_
        exact J45_6 _ ((i2 &&& (2147483647 : Int32)) % (7 : Int32)) X32_4 e32_4 (by rw [if_neg hc45_5])
    by_cases hc32_3 : v20_2_s0 = (0 : Int32)
    · refine own_step (f' := (mkF m 39 #[.val (.int i1), .val (.int i2), .val (.int i3), .val (.int ((i1 &&& (2147483647 : Int32)) % (7 : Int32))), .val (.int ((i2 &&& (2147483647 : Int32)) % (7 : Int32))), .val (.int v20_2_s0), .unset, .unset, .unset, .unset, .unset] [])) (fun _ k => XS.ifYes X20_2.here hx rfl (pc0 := 32) (pc' := 39) rfl (hb hby at_32) rfl ((if0 _ _).trans (teq hc32_3).1) (by decide) (by decide) k) ?_
      refine own_step (f' := (mkF m 41 #[.val (.int i1), .val (.int i2), .val (.int i3), .val (.int ((i1 &&& (2147483647 : Int32)) % (7 : Int32))), .val (.int ((i2 &&& (2147483647 : Int32)) % (7 : Int32))), .val (.int v20_2_s0), .unset, .unset, .unset, .unset, .unset] [(.int ((i2 &&& (2147483647 : Int32)) % (7 : Int32)))])) (fun _ k => XS.iload X20_2.here hx rfl (hb hby at_39) rfl k) ?_
      exact J32_4 _ ((i2 &&& (2147483647 : Int32)) % (7 : Int32)) X20_2 e20_2 (by rw [if_pos hc32_3])
    · refine own_step (f' := (mkF m 35 #[.val (.int i1), .val (.int i2), .val (.int i3), .val (.int ((i1 &&& (2147483647 : Int32)) % (7 : Int32))), .val (.int ((i2 &&& (2147483647 : Int32)) % (7 : Int32))), .val (.int v20_2_s0), .unset, .unset, .unset, .unset, .unset] [])) (fun _ k => XS.ifNo X20_2.here hx rfl (hb hby at_32) rfl ((if0 _ _).trans (feq hc32_3).1) k) ?_
      refine own_step (f' := (mkF m 36 #[.val (.int i1), .val (.int i2), .val (.int i3), .val (.int ((i1 &&& (2147483647 : Int32)) % (7 : Int32))), .val (.int ((i2 &&& (2147483647 : Int32)) % (7 : Int32))), .val (.int v20_2_s0), .unset, .unset, .unset, .unset, .unset] [(.int ((i1 &&& (2147483647 : Int32)) % (7 : Int32)))])) (fun _ k => XS.iloadN X20_2.here hx rfl (hb hby at_35) rfl k) ?_
      refine own_step (f' := (mkF m 41 #[.val (.int i1), .val (.int i2), .val (.int i3), .val (.int ((i1 &&& (2147483647 : Int32)) % (7 : Int32))), .val (.int ((i2 &&& (2147483647 : Int32)) % (7 : Int32))), .val (.int v20_2_s0), .unset, .unset, .unset, .unset, .unset] [(.int ((i1 &&& (2147483647 : Int32)) % (7 : Int32)))])) (fun _ k => XS.goto X20_2.here hx rfl (pc0 := 36) (pc' := 41) rfl (hb hby at_36) (by decide) (by decide) k) ?_
      exact J32_4 _ ((i1 &&& (2147483647 : Int32)) % (7 : Int32)) X20_2 e20_2 (by rw [if_neg hc32_3])
  by_cases hc20_1 : (i3 &&& (1 : Int32)) = (0 : Int32)
  · refine own_step (f' := (mkF m 27 #[.val (.int i1), .val (.int i2), .val (.int i3), .val (.int ((i1 &&& (2147483647 : Int32)) % (7 : Int32))), .val (.int ((i2 &&& (2147483647 : Int32)) % (7 : Int32))), .unset, .unset, .unset, .unset, .unset, .unset] [])) (fun _ k => XS.ifYes X0.here hx rfl (pc0 := 20) (pc' := 27) rfl (hb hby at_20) rfl ((if0 _ _).trans (teq hc20_1).1) (by decide) (by decide) k) ?_
    refine own_step (f' := (mkF m 28 #[.val (.int i1), .val (.int i2), .val (.int i3), .val (.int ((i1 &&& (2147483647 : Int32)) % (7 : Int32))), .val (.int ((i2 &&& (2147483647 : Int32)) % (7 : Int32))), .unset, .unset, .unset, .unset, .unset, .unset] [(.int (0 : Int32))])) (fun _ k => XS.iconst X0.here hx rfl (hb hby at_27) k) ?_
    exact J20_2 _ (0 : Int32) X0 e0 (by rw [if_pos hc20_1])
  · refine own_step (f' := (mkF m 23 #[.val (.int i1), .val (.int i2), .val (.int i3), .val (.int ((i1 &&& (2147483647 : Int32)) % (7 : Int32))), .val (.int ((i2 &&& (2147483647 : Int32)) % (7 : Int32))), .unset, .unset, .unset, .unset, .unset, .unset] [])) (fun _ k => XS.ifNo X0.here hx rfl (hb hby at_20) rfl ((if0 _ _).trans (feq hc20_1).1) k) ?_
    refine own_step (f' := (mkF m 24 #[.val (.int i1), .val (.int i2), .val (.int i3), .val (.int ((i1 &&& (2147483647 : Int32)) % (7 : Int32))), .val (.int ((i2 &&& (2147483647 : Int32)) % (7 : Int32))), .unset, .unset, .unset, .unset, .unset, .unset] [(.int (1 : Int32))])) (fun _ k => XS.iconst X0.here hx rfl (hb hby at_23) k) ?_
    refine own_step (f' := (mkF m 28 #[.val (.int i1), .val (.int i2), .val (.int i3), .val (.int ((i1 &&& (2147483647 : Int32)) % (7 : Int32))), .val (.int ((i2 &&& (2147483647 : Int32)) % (7 : Int32))), .unset, .unset, .unset, .unset, .unset, .unset] [(.int (1 : Int32))])) (fun _ k => XS.goto X0.here hx rfl (pc0 := 24) (pc' := 28) rfl (hb hby at_24) (by decide) (by decide) k) ?_
    exact J20_2 _ (1 : Int32) X0 e0 (by rw [if_neg hc20_1])
set_option maxRecDepth 65536 in
set_option maxHeartbeats 40000000 in
theorem comes_1 {Post : Tables → Env → Array Value → State → Outcome → State → Prop} (hpost : ∀ tb e args s v u, (limb_1_1.after args s (.returned v) u = true ∧ limb_1_2.after args s (.returned v) u = true ∧ True) → FrameEnd s (.returned v) u (Jvm.fieldLocs frame_1_writes args s ++ Jvm.arrayLocs frame_1_arrays args s ++ Jvm.staticLocs frame_1_statics s) 16 128 → Post tb e args s (.returned v) u) :
    ArmFor flags0 classFile x code maxLocals ret World_1 tables_1 room_1 Calls_1 rest_1 Pre_1 Post := by
  intro l hfl _ _ p e ha hc hk s m args below hf hA hF happ hP
  obtain ⟨hcalls, hrest, hpre⟩ := hP
  obtain ⟨-, -, -, hnamed, -, -, -, hat⟩ := (Spec.applies_iff hf).mp happ
  obtain ⟨hg, hn⟩ := and_e (Cond.before_iff.mp (show (Jvm.Cond.and given_1 narrow_1).before args s = true from hpre))
  obtain ⟨gq1, gq2⟩ := and_e hg
  obtain ⟨gq3, gq4⟩ := and_e gq2
  obtain ⟨gq5, gq6⟩ := and_e gq4
  obtain ⟨w0, w1, w2, rfl⟩ : ∃ w0 w1 w2 : Value, args = #[w0, w1, w2] := by
    have hs : args.size = 3 := by simpa [Cond.value, given_1] using gq1
    obtain ⟨L⟩ := args
    match L, hs with
    | [w0, w1, w2], _ => exact ⟨w0, w1, w2, rfl⟩
  have hw := fun d (hd : d ∈ tables_1) => atoms_spec (ws := Jvm.Cond.code x code maxLocals ret :: tables_1) hat d (List.mem_cons_of_mem _ hd)
  have hfit : Fit s := fun {y c} hc i hi => by
    obtain ⟨ha, rfl⟩ := Array.getElem?_eq_some_iff.mp hc
    have q := List.all_eq_true.mp ((Array.all_eq_true_iff_forall_mem.mp hF) _ (Array.getElem_mem ha)) i (List.mem_range.mpr hi)
    simpa [Array.getElem?_eq_getElem hi] using q
  obtain ⟨i0, ei0⟩ := is_v gq3
  obtain rfl : w0 = (.int i0) := Option.some.inj ei0
  obtain ⟨i1, ei1⟩ := is_v gq5
  obtain rfl : w1 = (.int i1) := Option.some.inj ei1
  obtain ⟨i2, ei2⟩ := is_v gq6
  obtain rfl : w2 = (.int i2) := Option.some.inj ei2
  obtain ⟨n, o, h1, h2, h3, _, L, rfl, ⟨rfl, N⟩, hq⟩ := rm0 l s _ hw tables_1 i0 i1 i2  s.heap s.heap.size (Nat.le_refl _)  p e ha hc hk s m _ below hf ((Spec.applies_iff_loose hf).mp happ).1 ⟨rfl, State.Warmed39.refl s, rfl⟩ trivial
  refine ⟨n, _, h1, h2, h3, hpost _ _ _ _ _ _ ⟨Cond.after_iff.mpr rfl, Cond.after_iff.mpr (eq_i res_at (Term.int_eval (1)) rfl), trivial⟩ ⟨hq.1, hq.2.1, (hq.2.2.sift fun y hy => Or.inr (N y hy)).mono (by decide) (by decide)⟩⟩
theorem main_1_1 : Claimed_1_1 := comes_1 fun _ _ _ _ _ _ h hF => ⟨h.1, hF⟩
theorem main_1_2 : Claimed_1_2 := comes_1 fun _ _ _ _ _ _ h hF => ⟨h.2.1, hF⟩
end Jvm.Pilot.@@N@@
namespace Jvm.Pilot.@@N@@
open Jvm Jvm.ClassFile Sem Op Lib Jvm.Free Jvm.Stand Jvm.Pilot.@@N@@.Jvm.D
/-! MADE BY PROGRAM (witnessworld.py) out of the Statement's table words and the real class files: 13 classes; the members and pool entries that the words name. The judged class is class 1, her method 1. -/
namespace start1
open Jvm.ClassFile
def u (s : String) : CpInfo := .utf8 (stringToUtf16 s)
/-- a pool by its gaps: so many unusable entries, then the entry; so many at the end -/
def gap : Nat → List CpInfo → List CpInfo
  | 0, r => r
  | n + 1, r => .unusable :: gap n r
def poolList (es : List (Nat × CpInfo)) (last : Nat) : List CpInfo := es.foldr (fun e r => gap e.1 (e.2 :: r)) (gap last [])
def pool (es : List (Nat × CpInfo)) (last : Nat) : Array CpInfo := ⟨poolList es last⟩
def fileOf (pool : Array CpInfo) (this : Nat) (attrs : Array Attribute := #[]) (ms : Array MethodInfo := #[]) (fl : Nat := 33) (sup : Nat := 0) (ifs : Array Nat := #[]) (fds : Array FieldInfo := #[]) : ClassFile where
  minorVersion := 0
  majorVersion := 65
  constantPool := pool
  accessFlags := fl
  thisClass := this
  superClass := sup
  interfaces := ifs
  fields := fds
  methods := ms
  attributes := attrs
def plain (name : String) (sup : Option ClassId) : Class where
  name := name
  kind := .ordinary
  loader := none
  accessFlags := 33
  super := sup
  interfaces := #[]
  cf := none
  fields := #[]
  methods := #[]
  instanceTypes := #[]
  staticTypes := #[]
  resolved := #[]
  callSites := []
  init := .initialized
  statics := none
  mirror := none

def pool0 : Array CpInfo := pool [(5, u "<init>"), (0, u "()V"), (1, .class_ 10), (1, u "java/lang/Object")] 113

def k0c0 : Code := { maxStack := 0, maxLocals := 1, code := object_method_1_code, exceptionTable := #[], attributes := #[] }
def k0m0 : Method := { name := "<init>", desc := "()V", sig := { parameters := [], returnType := none }, accessFlags := 1, code := some k0c0 }
/-- java/lang/Object -/
def k0 : Class := { plain "java/lang/Object" none with
  accessFlags := 33
  interfaces := #[]
  cf := some (fileOf pool0 8 #[] #[{ accessFlags := 1, nameIndex := 5, descriptorIndex := 6, attributes := #[] }] 33 0 #[] #[])
  fields := #[]
  methods := #[k0m0]
  instanceTypes := #[]
  staticTypes := #[]
  resolved := Array.replicate 124 none
  statics := none }

def pool1 : Array CpInfo := pool [(2, .class_ 4), (1, u "java/lang/Object"), (0, u "<init>"), (0, u "()V"), (0, .integer 2147483647), (0, .class_ 9), (0, u "com/example/kostyashki/kostyashki/tiles/Tile"), (0, .methodref 8 11), (0, .nameAndType 5 12), (0, u "(II)V"), (0, .class_ 14), (0, u "com/example/kostyashki/kostyashki/round/Placement"), (0, .methodref 13 16), (0, .nameAndType 5 17), (0, u "(Lcom/example/kostyashki/kostyashki/tiles/Tile;I)V"), (0, .methodref 13 19), (0, .nameAndType 20 21), (0, u "other"), (0, u "()I"), (0, .methodref 23 24), (0, .class_ 25), (0, .nameAndType 26 27), (0, u "java/lang/Math"), (0, u "min"), (0, u "(II)I"), (0, .methodref 8 29), (0, .nameAndType 30 21), (0, u "low"), (0, .methodref 23 32), (0, .nameAndType 33 27), (0, u "max"), (0, .methodref 8 35), (0, .nameAndType 36 21), (0, u "high"), (0, .class_ 38), (0, u "com/example/kostyashki/kostyashki/round/PlacementOtherPinLaw"), (2, u "law"), (0, u "(III)Z")] 3

def k1m0 : Method := { name := "<init>", desc := "()V", sig := { parameters := [], returnType := none }, accessFlags := 1, code := none }
def k1c1 : Code := { maxStack := 4, maxLocals := 11, code := code, exceptionTable := #[], attributes := #[] }
def k1m1 : Method := { name := "law", desc := "(III)Z", sig := { parameters := [.int, .int, .int], returnType := some .boolean }, accessFlags := 9, code := some k1c1 }
/-- com/example/kostyashki/kostyashki/round/PlacementOtherPinLaw -/
def k1 : Class := { plain "com/example/kostyashki/kostyashki/round/PlacementOtherPinLaw" (some 0) with
  accessFlags := 49
  interfaces := #[]
  cf := some (fileOf pool1 37 #[] #[{ accessFlags := 1, nameIndex := 5, descriptorIndex := 6, attributes := #[] }, { accessFlags := 9, nameIndex := 41, descriptorIndex := 42, attributes := #[] }] 49 2 #[] #[])
  fields := #[]
  methods := #[k1m0, k1m1]
  instanceTypes := #[]
  staticTypes := #[]
  resolved := Array.replicate 46 none
  statics := none }

def pool2 : Array CpInfo := pool [(1, .methodref 2 3), (0, .class_ 4), (0, .nameAndType 5 6), (0, u "java/lang/Object"), (0, u "<init>"), (0, u "()V"), (0, .class_ 8), (0, u "java/lang/Record")] 13

def k2c0 : Code := { maxStack := 1, maxLocals := 1, code := jdk_30_method_1_code, exceptionTable := #[], attributes := #[] }
def k2m0 : Method := { name := "<init>", desc := "()V", sig := { parameters := [], returnType := none }, accessFlags := 4, code := some k2c0 }
/-- java/lang/Record -/
def k2 : Class := { plain "java/lang/Record" (some 0) with
  accessFlags := 1057
  interfaces := #[]
  cf := some (fileOf pool2 7 #[] #[{ accessFlags := 4, nameIndex := 5, descriptorIndex := 6, attributes := #[] }] 1057 2 #[] #[])
  fields := #[]
  methods := #[k2m0]
  instanceTypes := #[]
  staticTypes := #[]
  resolved := Array.replicate 22 none
  statics := none }

def pool3 : Array CpInfo := pool [(1, .methodref 2 3), (0, .class_ 4), (0, .nameAndType 5 6), (0, u "java/lang/Record"), (0, u "<init>"), (0, u "()V"), (0, .class_ 8), (0, u "com/example/kostyashki/kostyashki/tiles/Tile"), (9, .fieldref 7 19), (0, .nameAndType 20 21), (0, u "low"), (0, u "I"), (0, .fieldref 7 23), (0, .nameAndType 24 21), (0, u "high"), (2, u "SET"), (0, u "Ljava/util/List;"), (5, u "()I"), (13, u "(II)V"), (28, u "MAX_HALF")] 51

def k3c0 : Code := { maxStack := 4, maxLocals := 4, code := prog_60_method_1_code, exceptionTable := #[], attributes := #[] }
def k3m0 : Method := { name := "<init>", desc := "(II)V", sig := { parameters := [.int, .int], returnType := none }, accessFlags := 1, code := some k3c0 }
def k3c1 : Code := { maxStack := 1, maxLocals := 1, code := prog_60_method_11_code, exceptionTable := #[], attributes := #[] }
def k3m1 : Method := { name := "low", desc := "()I", sig := { parameters := [], returnType := some .int }, accessFlags := 1, code := some k3c1 }
def k3c2 : Code := { maxStack := 1, maxLocals := 1, code := prog_60_method_12_code, exceptionTable := #[], attributes := #[] }
def k3m2 : Method := { name := "high", desc := "()I", sig := { parameters := [], returnType := some .int }, accessFlags := 1, code := some k3c2 }
/-- com/example/kostyashki/kostyashki/tiles/Tile -/
def k3 : Class := { plain "com/example/kostyashki/kostyashki/tiles/Tile" (some 2) with
  accessFlags := 49
  interfaces := #[]
  cf := some (fileOf pool3 7 #[] #[{ accessFlags := 1, nameIndex := 5, descriptorIndex := 48, attributes := #[] }, { accessFlags := 1, nameIndex := 20, descriptorIndex := 34, attributes := #[] }, { accessFlags := 1, nameIndex := 24, descriptorIndex := 34, attributes := #[] }] 49 2 #[] #[{ accessFlags := 18, nameIndex := 20, descriptorIndex := 21, attributes := #[] }, { accessFlags := 18, nameIndex := 24, descriptorIndex := 21, attributes := #[] }, { accessFlags := 25, nameIndex := 77, descriptorIndex := 21, attributes := #[] }, { accessFlags := 26, nameIndex := 27, descriptorIndex := 28, attributes := #[] }])
  fields := #[{ name := "low", type := .int, accessFlags := 18, slot := 0, constantValue := 0 }, { name := "high", type := .int, accessFlags := 18, slot := 1, constantValue := 0 }, { name := "MAX_HALF", type := .int, accessFlags := 25, slot := 0, constantValue := 0 }, { name := "SET", type := (.object "java/util/List"), accessFlags := 26, slot := 1, constantValue := 0 }]
  methods := #[k3m0, k3m1, k3m2]
  instanceTypes := #[.int, .int]
  staticTypes := #[.int, (.object "java/util/List")]
  resolved := Array.replicate 129 none
  statics := none }

def pool4 : Array CpInfo := pool [(1, .class_ 2), (0, u "com/example/kostyashki/kostyashki/round/Move"), (0, .class_ 4), (0, u "java/lang/Object")] 13

/-- com/example/kostyashki/kostyashki/round/Move -/
def k4 : Class := { plain "com/example/kostyashki/kostyashki/round/Move" (some 0) with
  accessFlags := 1537
  interfaces := #[]
  cf := some (fileOf pool4 1 #[] #[] 1537 3 #[] #[])
  fields := #[]
  methods := #[]
  instanceTypes := #[]
  staticTypes := #[]
  resolved := Array.replicate 18 none
  statics := none }

def pool5 : Array CpInfo := pool [(1, .methodref 2 3), (0, .class_ 4), (0, .nameAndType 5 6), (0, u "java/lang/Record"), (0, u "<init>"), (0, u "()V"), (0, .methodref 8 9), (0, .class_ 10), (0, .nameAndType 11 12), (0, u "com/example/kostyashki/kostyashki/tiles/Tile"), (0, u "low"), (0, u "()I"), (0, .methodref 8 14), (0, .nameAndType 15 12), (0, u "high"), (15, .fieldref 32 33), (0, .class_ 34), (0, .nameAndType 35 36), (0, u "com/example/kostyashki/kostyashki/round/Placement"), (0, u "tile"), (0, u "Lcom/example/kostyashki/kostyashki/tiles/Tile;"), (0, .fieldref 32 38), (0, .nameAndType 39 40), (0, u "touching"), (0, u "I"), (10, u "(Lcom/example/kostyashki/kostyashki/tiles/Tile;I)V"), (8, u "other"), (11, .class_ 73), (0, u "com/example/kostyashki/kostyashki/round/Move")] 44

def k5c0 : Code := { maxStack := 4, maxLocals := 3, code := prog_49_method_1_code, exceptionTable := #[], attributes := #[] }
def k5m0 : Method := { name := "<init>", desc := "(Lcom/example/kostyashki/kostyashki/tiles/Tile;I)V", sig := { parameters := [(.object "com/example/kostyashki/kostyashki/tiles/Tile"), .int], returnType := none }, accessFlags := 1, code := some k5c0 }
def k5c1 : Code := { maxStack := 2, maxLocals := 1, code := prog_49_method_4_code, exceptionTable := #[], attributes := #[] }
def k5m1 : Method := { name := "other", desc := "()I", sig := { parameters := [], returnType := some .int }, accessFlags := 1, code := some k5c1 }
/-- com/example/kostyashki/kostyashki/round/Placement -/
def k5 : Class := { plain "com/example/kostyashki/kostyashki/round/Placement" (some 2) with
  accessFlags := 49
  interfaces := #[4]
  cf := some (fileOf pool5 32 #[] #[{ accessFlags := 1, nameIndex := 5, descriptorIndex := 51, attributes := #[] }, { accessFlags := 1, nameIndex := 60, descriptorIndex := 12, attributes := #[] }] 49 2 #[72] #[{ accessFlags := 18, nameIndex := 35, descriptorIndex := 36, attributes := #[] }, { accessFlags := 18, nameIndex := 39, descriptorIndex := 40, attributes := #[] }])
  fields := #[{ name := "tile", type := (.object "com/example/kostyashki/kostyashki/tiles/Tile"), accessFlags := 18, slot := 0, constantValue := 0 }, { name := "touching", type := .int, accessFlags := 18, slot := 1, constantValue := 0 }]
  methods := #[k5m0, k5m1]
  instanceTypes := #[(.object "com/example/kostyashki/kostyashki/tiles/Tile"), .int]
  staticTypes := #[]
  resolved := Array.replicate 118 none
  statics := none }

def pool6 : Array CpInfo := pool [(1, .class_ 2), (0, u "java/lang/Math"), (1, .class_ 6), (1, u "java/lang/Object"), (0, u "<init>"), (0, u "()V"), (89, .class_ 100), (1, u "java/lang/Math$RandomNumberGeneratorHolder"), (71, u "negativeZeroFloatBits"), (0, u "J"), (2, u "negativeZeroDoubleBits"), (21, u "max"), (2, u "min"), (43, u "$assertionsDisabled"), (0, u "Z"), (88, u "(II)I"), (2, u "twoToTheDoubleScaleDown"), (0, u "D"), (4, u "twoToTheDoubleScaleUp"), (9, u "E"), (3, u "PI"), (2, u "TAU"), (2, u "DEGREES_TO_RADIANS"), (0, u "RADIANS_TO_DEGREES")] 94

def k6m0 : Method := { name := "<init>", desc := "()V", sig := { parameters := [], returnType := none }, accessFlags := 2, code := none }
def k6c1 : Code := { maxStack := 2, maxLocals := 2, code := jdk_29_method_65_code, exceptionTable := #[], attributes := #[] }
def k6m1 : Method := { name := "max", desc := "(II)I", sig := { parameters := [.int, .int], returnType := some .int }, accessFlags := 9, code := some k6c1 }
def k6c2 : Code := { maxStack := 2, maxLocals := 2, code := jdk_29_method_69_code, exceptionTable := #[], attributes := #[] }
def k6m2 : Method := { name := "min", desc := "(II)I", sig := { parameters := [.int, .int], returnType := some .int }, accessFlags := 9, code := some k6c2 }
/-- java/lang/Math -/
def k6 : Class := { plain "java/lang/Math" (some 0) with
  accessFlags := 49
  interfaces := #[]
  cf := some (fileOf pool6 1 #[.nestMembers #[98]] #[{ accessFlags := 2, nameIndex := 7, descriptorIndex := 8, attributes := #[] }, { accessFlags := 9, nameIndex := 198, descriptorIndex := 335, attributes := #[] }, { accessFlags := 9, nameIndex := 201, descriptorIndex := 335, attributes := #[] }] 49 4 #[] #[{ accessFlags := 25, nameIndex := 354, descriptorIndex := 339, attributes := #[] }, { accessFlags := 25, nameIndex := 358, descriptorIndex := 339, attributes := #[] }, { accessFlags := 25, nameIndex := 361, descriptorIndex := 339, attributes := #[] }, { accessFlags := 26, nameIndex := 364, descriptorIndex := 339, attributes := #[] }, { accessFlags := 26, nameIndex := 365, descriptorIndex := 339, attributes := #[] }, { accessFlags := 26, nameIndex := 172, descriptorIndex := 173, attributes := #[] }, { accessFlags := 26, nameIndex := 176, descriptorIndex := 173, attributes := #[] }, { accessFlags := 8, nameIndex := 344, descriptorIndex := 339, attributes := #[] }, { accessFlags := 8, nameIndex := 338, descriptorIndex := 339, attributes := #[] }, { accessFlags := 4120, nameIndex := 245, descriptorIndex := 246, attributes := #[] }])
  fields := #[{ name := "E", type := .double, accessFlags := 25, slot := 0, constantValue := 0 }, { name := "PI", type := .double, accessFlags := 25, slot := 1, constantValue := 0 }, { name := "TAU", type := .double, accessFlags := 25, slot := 2, constantValue := 0 }, { name := "DEGREES_TO_RADIANS", type := .double, accessFlags := 26, slot := 3, constantValue := 0 }, { name := "RADIANS_TO_DEGREES", type := .double, accessFlags := 26, slot := 4, constantValue := 0 }, { name := "negativeZeroFloatBits", type := .long, accessFlags := 26, slot := 5, constantValue := 0 }, { name := "negativeZeroDoubleBits", type := .long, accessFlags := 26, slot := 6, constantValue := 0 }, { name := "twoToTheDoubleScaleUp", type := .double, accessFlags := 8, slot := 7, constantValue := 0 }, { name := "twoToTheDoubleScaleDown", type := .double, accessFlags := 8, slot := 8, constantValue := 0 }, { name := "$assertionsDisabled", type := .boolean, accessFlags := 4120, slot := 9, constantValue := 0 }]
  methods := #[k6m0, k6m1, k6m2]
  instanceTypes := #[]
  staticTypes := #[.double, .double, .double, .double, .double, .long, .long, .double, .double, .boolean]
  resolved := Array.replicate 460 none
  statics := none }

def pool7 : Array CpInfo := pool [(1, u "java/lang/Cloneable"), (0, .class_ 1), (0, u "java/lang/Object"), (0, .class_ 3)] 3

/-- java/lang/Cloneable -/
def k7 : Class := { plain "java/lang/Cloneable" (some 0) with
  accessFlags := 1537
  interfaces := #[]
  cf := some (fileOf pool7 2 #[] #[] 1537 4 #[] #[])
  fields := #[]
  methods := #[]
  instanceTypes := #[]
  staticTypes := #[]
  resolved := Array.replicate 8 none
  statics := none }

def pool8 : Array CpInfo := pool [(1, u "java/io/Serializable"), (0, .class_ 1), (0, u "java/lang/Object"), (0, .class_ 3)] 3

/-- java/io/Serializable -/
def k8 : Class := { plain "java/io/Serializable" (some 0) with
  accessFlags := 1537
  interfaces := #[]
  cf := some (fileOf pool8 2 #[] #[] 1537 4 #[] #[])
  fields := #[]
  methods := #[]
  instanceTypes := #[]
  staticTypes := #[]
  resolved := Array.replicate 8 none
  statics := none }

/-- the primitive byte -/
def k9 : Class := { plain "byte" none with kind := .primitive 'B', accessFlags := 0x411 }
/-- [B -/
def k10 : Class := { plain "[B" (some 0) with kind := .array 9 .byte, interfaces := #[7, 8], accessFlags := 1041 }

/-- the primitive int -/
def k11 : Class := { plain "int" none with kind := .primitive 'I', accessFlags := 0x411 }
/-- [I -/
def k12 : Class := { plain "[I" (some 0) with kind := .array 11 .int, interfaces := #[7, 8], accessFlags := 1041 }

def heap : Heap := #[]
def classes : Array Class := #[k0, k1, k2, k3, k4, k5, k6, k7, k8, k9, k10, k11, k12]
def interned : List (Array UInt16 × Addr) := []
def slotsUsed : Nat := 0
def theMethod : MethodId := ⟨1, 1⟩
def args0 : Array Value := #[.int 5, .int 5, .int 5]
def aboutOver (below : List Frame) : State where
  vm := { classes := classes, interned := interned.toArray }
  heap := heap
  slotsUsed := slotsUsed
  threads := #[{ frames := .invoking theMethod args0 :: below }]
def below0 : List Frame := [.native { method := ⟨0, 0⟩, args := #[] }]
def about1 : State := aboutOver below0
def p0 : Program := .bare "" "" ""
def e0 : Env := launch0.env 0 0 0
theorem w_frames : about1.frames = Frame.invoking theMethod args0 :: below0 := rfl
set_option maxRecDepth 65536 in
theorem w_args : argsFit about1.vm theMethod args0 = true := by decide +kernel
set_option maxRecDepth 65536 in
theorem w_heap : heapFits about1 = true := by decide +kernel
set_option maxRecDepth 65536 in
theorem w_runnable : about1.curStatus? = some .runnable := by decide +kernel
set_option maxRecDepth 65536 in
theorem w_alone : about1.alone = true := by decide +kernel
set_option maxRecDepth 65536 in
theorem w_named : about1.methodNamed? x = some theMethod := by decide +kernel
set_option maxRecDepth 65536 in
theorem w_hears : about1.hears theMethod below0 = true := by decide +kernel
set_option maxRecDepth 65536 in
theorem w_ripe : about1.ripe theMethod args0 below0 = true := by decide +kernel
theorem w_running : about1.status = .running := rfl
set_option maxRecDepth 65536 in
theorem w_room : about1.hasRoom e0.platform room_1 = true :=
  launch0.hasRoom_least _ room_1 (by decide +kernel) (by decide +kernel) (by decide +kernel) (by decide +kernel) (by decide +kernel) (by decide +kernel)
theorem allAtoms_all (ts : List Jvm.Cond) (a : Array Jvm.Value) (st : Jvm.State) : (allAtoms ts).before a st = ts.all (fun c => c.before a st) := by
  induction ts with
  | nil => rfl
  | cons c t ih =>
    show (Jvm.Cond.and c (allAtoms t)).before a st = _
    rw [Jvm.Cond.before_and, ih, List.all_cons]
def words1 : List Jvm.Cond := Jvm.Cond.code x code maxLocals ret :: tables_1
/-- a 'code' word, met by the world's own term for the bytes: nothing is compared byte by byte -/
theorem code_word {y : MethodName} {bytes : ByteArray} {mx : Nat} {rt : Option FieldType} {a : Array Value} {s : State} {m : MethodId} {meth : Method} {c : Code} (h1 : s.methodNamed? y = some m) (h2 : s.vm.method? m = some meth) (h3 : meth.code = some c) (h4 : c.code = bytes)
    (h5 : (c.maxLocals == mx && c.exceptionTable.isEmpty && decide (c.maxStack ≤ mostOperands) && decide (meth.sig.returnType = rt) && !meth.locks && decide (parseMethodDescriptor y.desc = some meth.sig)) = true) : (Jvm.Cond.code y bytes mx rt).before a s = true := by
  simp only [Bool.and_eq_true, beq_iff_eq, Bool.not_eq_true', decide_eq_true_eq] at h5
  obtain ⟨⟨⟨⟨⟨g1, g2⟩, g3⟩, g4⟩, g5⟩, g6⟩ := h5
  simp [Cond.before, Cond.holds, Cond.value, h1, h2, h3, h4, g1, g2, g3, g4, g5, g6]
def isCode : Jvm.Cond → Bool
  | .code _ _ _ _ => true
  | _ => false
theorem all_split {L : List Jvm.Cond} {P : Jvm.Cond → Bool} (h1 : L.all (fun c => isCode c || P c) = true) (h2 : ∀ c ∈ L.filter isCode, P c = true) : L.all P = true := by
  refine List.all_eq_true.mpr fun c hc => ?_
  have h := List.all_eq_true.mp h1 c hc
  rcases Bool.eq_false_or_eq_true (isCode c) with hi | hi
  · exact h2 c (List.mem_filter.mpr ⟨hc, hi⟩)
  · simpa [hi] using h
set_option maxRecDepth 65536 in
theorem w_c0 : (Jvm.Cond.code x code maxLocals ret).before args0 about1 = true := code_word (m := ⟨1, 1⟩) (meth := k1m1) (c := k1c1) (by decide +kernel) rfl rfl rfl (by decide +kernel)
set_option maxRecDepth 65536 in
theorem w_c1 : (Jvm.Cond.code ({ cls := "com/example/kostyashki/kostyashki/tiles/Tile", name := "<init>", desc := "(II)V" } : Jvm.MethodName) prog_60_method_1_code (4 : Nat) (Option.none : Option Jvm.ClassFile.FieldType)).before args0 about1 = true := code_word (m := ⟨3, 0⟩) (meth := k3m0) (c := k3c0) (by decide +kernel) rfl rfl rfl (by decide +kernel)
set_option maxRecDepth 65536 in
theorem w_c2 : (Jvm.Cond.code ({ cls := "java/lang/Record", name := "<init>", desc := "()V" } : Jvm.MethodName) jdk_30_method_1_code (1 : Nat) (Option.none : Option Jvm.ClassFile.FieldType)).before args0 about1 = true := code_word (m := ⟨2, 0⟩) (meth := k2m0) (c := k2c0) (by decide +kernel) rfl rfl rfl (by decide +kernel)
set_option maxRecDepth 65536 in
theorem w_c3 : (Jvm.Cond.code ({ cls := "java/lang/Object", name := "<init>", desc := "()V" } : Jvm.MethodName) object_method_1_code (1 : Nat) (Option.none : Option Jvm.ClassFile.FieldType)).before args0 about1 = true := code_word (m := ⟨0, 0⟩) (meth := k0m0) (c := k0c0) (by decide +kernel) rfl rfl rfl (by decide +kernel)
set_option maxRecDepth 65536 in
theorem w_c4 : (Jvm.Cond.code ({ cls := "com/example/kostyashki/kostyashki/round/Placement", name := "<init>", desc := "(Lcom/example/kostyashki/kostyashki/tiles/Tile;I)V" } : Jvm.MethodName) prog_49_method_1_code (3 : Nat) (Option.none : Option Jvm.ClassFile.FieldType)).before args0 about1 = true := code_word (m := ⟨5, 0⟩) (meth := k5m0) (c := k5c0) (by decide +kernel) rfl rfl rfl (by decide +kernel)
set_option maxRecDepth 65536 in
theorem w_c5 : (Jvm.Cond.code ({ cls := "com/example/kostyashki/kostyashki/tiles/Tile", name := "low", desc := "()I" } : Jvm.MethodName) prog_60_method_11_code (1 : Nat) (Option.some Jvm.ClassFile.FieldType.int)).before args0 about1 = true := code_word (m := ⟨3, 1⟩) (meth := k3m1) (c := k3c1) (by decide +kernel) rfl rfl rfl (by decide +kernel)
set_option maxRecDepth 65536 in
theorem w_c6 : (Jvm.Cond.code ({ cls := "com/example/kostyashki/kostyashki/tiles/Tile", name := "high", desc := "()I" } : Jvm.MethodName) prog_60_method_12_code (1 : Nat) (Option.some Jvm.ClassFile.FieldType.int)).before args0 about1 = true := code_word (m := ⟨3, 2⟩) (meth := k3m2) (c := k3c2) (by decide +kernel) rfl rfl rfl (by decide +kernel)
set_option maxRecDepth 65536 in
theorem w_c7 : (Jvm.Cond.code ({ cls := "com/example/kostyashki/kostyashki/round/Placement", name := "other", desc := "()I" } : Jvm.MethodName) prog_49_method_4_code (1 : Nat) (Option.some Jvm.ClassFile.FieldType.int)).before args0 about1 = true := code_word (m := ⟨5, 1⟩) (meth := k5m1) (c := k5c1) (by decide +kernel) rfl rfl rfl (by decide +kernel)
set_option maxRecDepth 65536 in
theorem w_c8 : (Jvm.Cond.code ({ cls := "java/lang/Math", name := "min", desc := "(II)I" } : Jvm.MethodName) jdk_29_method_69_code (2 : Nat) (Option.some Jvm.ClassFile.FieldType.int)).before args0 about1 = true := code_word (m := ⟨6, 2⟩) (meth := k6m2) (c := k6c2) (by decide +kernel) rfl rfl rfl (by decide +kernel)
set_option maxRecDepth 65536 in
theorem w_c9 : (Jvm.Cond.code ({ cls := "java/lang/Math", name := "max", desc := "(II)I" } : Jvm.MethodName) jdk_29_method_65_code (2 : Nat) (Option.some Jvm.ClassFile.FieldType.int)).before args0 about1 = true := code_word (m := ⟨6, 1⟩) (meth := k6m1) (c := k6c1) (by decide +kernel) rfl rfl rfl (by decide +kernel)
def codes1 : List Jvm.Cond := [Jvm.Cond.code x code maxLocals ret, Jvm.Cond.code ({ cls := "com/example/kostyashki/kostyashki/tiles/Tile", name := "<init>", desc := "(II)V" } : Jvm.MethodName) prog_60_method_1_code (4 : Nat) (Option.none : Option Jvm.ClassFile.FieldType), Jvm.Cond.code ({ cls := "java/lang/Record", name := "<init>", desc := "()V" } : Jvm.MethodName) jdk_30_method_1_code (1 : Nat) (Option.none : Option Jvm.ClassFile.FieldType), Jvm.Cond.code ({ cls := "java/lang/Object", name := "<init>", desc := "()V" } : Jvm.MethodName) object_method_1_code (1 : Nat) (Option.none : Option Jvm.ClassFile.FieldType), Jvm.Cond.code ({ cls := "com/example/kostyashki/kostyashki/round/Placement", name := "<init>", desc := "(Lcom/example/kostyashki/kostyashki/tiles/Tile;I)V" } : Jvm.MethodName) prog_49_method_1_code (3 : Nat) (Option.none : Option Jvm.ClassFile.FieldType), Jvm.Cond.code ({ cls := "com/example/kostyashki/kostyashki/tiles/Tile", name := "low", desc := "()I" } : Jvm.MethodName) prog_60_method_11_code (1 : Nat) (Option.some Jvm.ClassFile.FieldType.int), Jvm.Cond.code ({ cls := "com/example/kostyashki/kostyashki/tiles/Tile", name := "high", desc := "()I" } : Jvm.MethodName) prog_60_method_12_code (1 : Nat) (Option.some Jvm.ClassFile.FieldType.int), Jvm.Cond.code ({ cls := "com/example/kostyashki/kostyashki/round/Placement", name := "other", desc := "()I" } : Jvm.MethodName) prog_49_method_4_code (1 : Nat) (Option.some Jvm.ClassFile.FieldType.int), Jvm.Cond.code ({ cls := "java/lang/Math", name := "min", desc := "(II)I" } : Jvm.MethodName) jdk_29_method_69_code (2 : Nat) (Option.some Jvm.ClassFile.FieldType.int), Jvm.Cond.code ({ cls := "java/lang/Math", name := "max", desc := "(II)I" } : Jvm.MethodName) jdk_29_method_65_code (2 : Nat) (Option.some Jvm.ClassFile.FieldType.int)]
set_option maxRecDepth 65536 in
theorem codes_eq : words1.filter isCode = codes1 := rfl
theorem w_codes : ∀ c ∈ words1.filter isCode, c.before args0 about1 = true := by
  rw [codes_eq]
  intro c hc
  simp only [codes1, List.mem_cons, List.not_mem_nil, or_false] at hc
  rcases hc with rfl | rfl | rfl | rfl | rfl | rfl | rfl | rfl | rfl | rfl
  · exact w_c0
  · exact w_c1
  · exact w_c2
  · exact w_c3
  · exact w_c4
  · exact w_c5
  · exact w_c6
  · exact w_c7
  · exact w_c8
  · exact w_c9
set_option maxRecDepth 65536 in
theorem w_t1 : (words1.take 24).all (fun c => isCode c || c.before args0 about1) = true := by decide +kernel
set_option maxRecDepth 65536 in
theorem w_t2 : ((words1.drop 24).take 24).all (fun c => isCode c || c.before args0 about1) = true := by decide +kernel
set_option maxRecDepth 65536 in
theorem w_t3 : ((words1.drop 24).drop 24).all (fun c => isCode c || c.before args0 about1) = true := by decide +kernel
theorem w_tables : (allAtoms (Jvm.Cond.code x code maxLocals ret :: tables_1)).before args0 about1 = true := by
  rw [allAtoms_all]
  show words1.all (fun c => c.before args0 about1) = true
  refine all_split ?_ w_codes
  rw [← List.take_append_drop 24 words1, List.all_append, w_t1, ← List.take_append_drop 24 (words1.drop 24), List.all_append, w_t2, w_t3]
  rfl
set_option maxRecDepth 65536 in
theorem w_case : (Jvm.Cond.and given_1 narrow_1).before args0 about1 = true := by decide +kernel
theorem w_applies : (headSpec (Jvm.Cond.code x code maxLocals ret :: tables_1) room_1).applies x e0.platform about1 = true :=
  (Spec.applies_iff w_frames).mpr ⟨w_running, w_runnable, w_alone, w_named, w_hears, w_ripe, w_room, w_tables⟩
theorem atStart : AtStart classFile x code maxLocals ret World_1 tables_1 room_1 Calls_1 rest_1 Pre_1 launch0 p0 e0 about1 theMethod args0 below0 :=
  ⟨lists_1, trivial, launch0.admits_env _ _ _, launch0.least_env, fairChoices_fair.cas, fairChoices_fair.clock, w_frames, w_args, w_heap, w_applies, trivial, trivial, w_case⟩
end start1
theorem witness_1 : WitnessClaimed_1 := ⟨start1.p0, start1.e0, start1.about1, start1.theMethod, start1.args0, start1.below0, start1.atStart⟩
end Jvm.Pilot.@@N@@
