import JvmDerived
import JvmDerived.Pilot.@@N@@Statement
import JvmDerived.Pilot.@@N@@Code
set_option linter.unusedVariables false
set_option linter.unusedSimpArgs false
namespace Jvm.Pilot.@@N@@
open Jvm Jvm.ClassFile Sem Op Lib Jvm.Free Jvm.Stand Jvm.LawKit Jvm.RoadKit Bundle Jvm.Pilot.@@N@@.Jvm.D
section Own
variable {p : Program} {l : Launch} {e : Env} {R : Room} {s : State} {m : MethodId} {args : Array Value} {below : List Frame} {meth : Method} {c : Code} {T T' : State} {locs : List Loc} {cells slots : Nat} {QQ : Option Value → Heap → List Loc → Prop} {kc ks : Nat} {f f' : JFrame}
/-- from here the run comes to the method's return, with what QQ says -/
def own_Goes (p : Program) (e : Env) (below : List Frame) (s : State) (QQ : Option Value → Heap → List Loc → Prop) (kc ks : Nat) (T : State) (f : JFrame) : Prop :=
  ∃ s₂ o, Steps p.tables e below (T.setTop f) s₂ ∧ s₂.status = .running ∧ Ended s₂ below o ∧ ∃ v L, o = .returned v ∧ QQ v s₂.heap L ∧ FrameEnd s o s₂ L kc ks
theorem own_step (st : ∀ target, Steps p.tables e below (T'.setTop f') target → Steps p.tables e below (T.setTop f) target) (h : own_Goes p e below s QQ kc ks T' f') : own_Goes p e below s QQ kc ks T f := by
  obtain ⟨s₂, o, h1, r⟩ := h
  exact ⟨s₂, o, st _ h1, r⟩
theorem own_jump (st : Steps p.tables e below (T.setTop f) (T'.setTop f')) (h : own_Goes p e below s QQ kc ks T' f') : own_Goes p e below s QQ kc ks T f := by
  obtain ⟨s₂, o, h1, r⟩ := h
  exact ⟨s₂, o, st.trans h1, r⟩
theorem own_out {v : Option Value} (X : Stand p l e R s m args below meth c T locs cells slots) (hlk : meth.locks = false) (hv : meth.sig.returnType = none → v = none)
    (st : ∀ fs, (∀ (f : JFrame) (acts : List Action), f.method = m → f.locked = none → f.entered = [] → (doReturn e (T.setTop f) acts v).1 = T.setFrames fs) → Steps p.tables e below (T.setTop f) (T.setFrames fs)) (hc : cells ≤ kc) (hs : slots ≤ ks) (hq : QQ v T.heap locs) : own_Goes p e below s QQ kc ks T f := by
  obtain ⟨fs, hr, hrun, hended, hW, hsame⟩ := X.leave (v := v) hv hlk
  exact ⟨_, _, st fs hr, hrun, hended, v, locs, rfl, hq, ⟨_, rfl⟩, hW, hsame.mono hc hs⟩
theorem own_staKeep {Z : State} {h h' : Heap} {C n d : String} {v : Value} {ws : List Addr} (F : Sta Z h C n d v) (K : Keep h h' ws) (q : ∀ x ∈ ws, ∃ cell : Cell, h[x]? = some cell ∧ cell.vm.isStatics = false) : Sta Z h' C n d v := by
  obtain ⟨cf, i, k, f, st, cell, h1, h2, h3, h4, h5, h6, h7⟩ := F
  refine ⟨cf, i, k, f, st, cell, h1, h2, h3, h4, K.2.1 st cell h5 (fun z => ?_), h6, h7⟩
  obtain ⟨c', g1, g2⟩ := q st z
  rw [h5] at g1
  cases g1
  rw [h6] at g2
  cases g2
theorem own_exaNS {Z : State} {h : Heap} {a : Addr} {C : String} (F : Exa Z h a C) : ∃ cell : Cell, h[a]? = some cell ∧ cell.vm.isStatics = false := by
  obtain ⟨cell, k, h1, -, -, h4, -⟩ := F
  exact ⟨cell, h1, h4⟩
end Own
theorem d2_0 : decode jdk_30_method_1_code 0 = .ok (.aload_n 0, 1) := by decide +kernel
theorem d2_1 : decode jdk_30_method_1_code 1 = .ok (.invokespecial 1, 3) := by decide +kernel
theorem d2_4 : decode jdk_30_method_1_code 4 = .ok (.return_, 1) := by decide +kernel
theorem pn_0 : plainName "java/lang/Record" = true := by first | (simp [plainName, overriddenIn]; done) | decide +kernel
theorem ef_2 (m : MethodId) (x0 : Addr) : entryFrame m #[(.ref x0)] 1 = mkF m 0 #[.val (.ref x0)] [] := by first | (simp [entryFrame, mkF, argsToLocals, Value.category]; done) | rfl
def Q2 (Z : State) (a1 : Addr) (h0 : Heap) (n0 : Nat) (v : Option Value) (h : Heap) (L : List Loc) : Prop := v = none ∧ L = [] ∧ h = h0
abbrev R2 : Room := { frames := 1, cells := 0, slots := 0, locals := 12 }
set_option maxRecDepth 65536 in
set_option maxHeartbeats 40000000 in
theorem rm2 (l : Launch) (Z : State) (a0 : Array Value) (hw : ∀ d ∈ tables_1, d.before a0 Z = true) (ws : List Jvm.Cond) (a1 : Addr) (h0 : Heap) (n0 : Nat) (Z0 : n0 ≤ h0.size)  :
    MetFree l (⟨"java/lang/Record", "<init>", "()V"⟩ : MethodName) (head1 (Jvm.Cond.code (⟨"java/lang/Record", "<init>", "()V"⟩ : MethodName) jdk_30_method_1_code 1 none :: ws) R2) (fun a U => a = #[(.ref a1)] ∧ Z.Warmed39 U.vm ∧ U.heap = h0) (fun _ _ _ _ _ => True) (fun _ U o U' => ∃ v L, o = .returned v ∧ Q2 Z a1 h0 n0 v U'.heap L ∧ FrameEnd U o U' L R2.cells R2.slots) := by
  refine MetFree.of_bodySF (plainFor_of_name pn_0) hisR ?_
  intro p e s m args below meth c s₁ Bd hml0 hP hK
  obtain ⟨rfl, hZ, hh⟩ := hP
  have hx := Bd.exec
  have hby := Bd.bytes
  have hlk : meth.locks = false := BodyLoose.notSynchronized Bd
  have hml : c.maxLocals = 1 := hml0
  have hown : s.vm.findClass "java/lang/Record" = some m.cls := findClass_of_methodNamed Bd.named
  have hnm := (name_of_methodNamed Bd.named Bd.method).1
  have X0 : Stand p l e R2 s m #[(.ref a1)] below meth c s₁ [] 0 0 := Stand.of_body Bd
  have e0 : s₁.heap = h0 := by rw [← hh, Bd.state]; rfl
  have N0 := Fr.nil n0
  show own_Goes p e below s (Q2 Z a1 h0 n0) R2.cells R2.slots s₁ (entryFrame m #[(.ref a1)] 1)
  rw [ef_2 m a1]
  refine own_step (f' := (mkF m 1 #[.val (.ref a1)] [(.ref a1)])) (fun _ k => XS.aloadN X0.here hx rfl (hb hby d2_0) rfl rfl k) ?_
  obtain ⟨T1, X1, e1, st1⟩ := initO X0 hx hZ hown (hw _ (List.mem_of_getElem? (i := 12) rfl)) (hw _ (List.mem_of_getElem? (i := 13) rfl)) (hw _ (List.mem_of_getElem? (i := 14) rfl)) e0 (g := (mkF m 1 #[.val (.ref a1)] [(.ref a1)])) rfl (by rw [hml]; rfl) rfl (hb hby d2_1) (by decide) (W := 0) (by show 2 * 0 + _ ≤ _; exact Nat.le_of_eq rfl) (by decide)
  refine own_step (f' := (mkF m 4 #[.val (.ref a1)] [])) st1 ?_
  refine own_out (v := none) X1 hlk (fun _ => rfl) (fun fs hr => X1.returnOut hx Bd.returns (hb hby d2_4) hr) (by decide) (by decide) ?_
  rw [e1]
  exact ⟨rfl, rfl, rfl⟩
def own_lo (x y : Int32) : Int32 := if y < x then y else x
def own_hi (x y : Int32) : Int32 := if y < x then x else y
theorem pd_0 : parseMethodDescriptor "()V" = some ⟨[], none⟩ := by decide +kernel
theorem d1_0 : decode prog_60_method_1_code 0 = .ok (.aload_n 0, 1) := by decide +kernel
theorem d1_1 : decode prog_60_method_1_code 1 = .ok (.invokespecial 1, 3) := by decide +kernel
theorem d1_4 : decode prog_60_method_1_code 4 = .ok (.iload_n 1, 1) := by decide +kernel
theorem d1_5 : decode prog_60_method_1_code 5 = .ok (.ifCond .lt 19, 3) := by decide +kernel
theorem d1_8 : decode prog_60_method_1_code 8 = .ok (.iload_n 1, 1) := by decide +kernel
theorem d1_9 : decode prog_60_method_1_code 9 = .ok (.bipush 6, 2) := by decide +kernel
theorem d1_11 : decode prog_60_method_1_code 11 = .ok (.if_icmp .gt 13, 3) := by decide +kernel
theorem d1_14 : decode prog_60_method_1_code 14 = .ok (.iload_n 2, 1) := by decide +kernel
theorem d1_15 : decode prog_60_method_1_code 15 = .ok (.ifCond .lt 9, 3) := by decide +kernel
theorem d1_18 : decode prog_60_method_1_code 18 = .ok (.iload_n 2, 1) := by decide +kernel
theorem d1_19 : decode prog_60_method_1_code 19 = .ok (.bipush 6, 2) := by decide +kernel
theorem d1_21 : decode prog_60_method_1_code 21 = .ok (.if_icmp .le 18, 3) := by decide +kernel
theorem d1_39 : decode prog_60_method_1_code 39 = .ok (.iload_n 1, 1) := by decide +kernel
theorem d1_40 : decode prog_60_method_1_code 40 = .ok (.iload_n 2, 1) := by decide +kernel
theorem d1_41 : decode prog_60_method_1_code 41 = .ok (.if_icmp .le 9, 3) := by decide +kernel
theorem d1_44 : decode prog_60_method_1_code 44 = .ok (.iload_n 1, 1) := by decide +kernel
theorem d1_45 : decode prog_60_method_1_code 45 = .ok (.istore_n 3, 1) := by decide +kernel
theorem d1_46 : decode prog_60_method_1_code 46 = .ok (.iload_n 2, 1) := by decide +kernel
theorem d1_47 : decode prog_60_method_1_code 47 = .ok (.istore_n 1, 1) := by decide +kernel
theorem d1_48 : decode prog_60_method_1_code 48 = .ok (.iload_n 3, 1) := by decide +kernel
theorem d1_49 : decode prog_60_method_1_code 49 = .ok (.istore_n 2, 1) := by decide +kernel
theorem d1_50 : decode prog_60_method_1_code 50 = .ok (.aload_n 0, 1) := by decide +kernel
theorem d1_51 : decode prog_60_method_1_code 51 = .ok (.iload_n 1, 1) := by decide +kernel
theorem d1_52 : decode prog_60_method_1_code 52 = .ok (.putfield 18, 3) := by decide +kernel
theorem d1_55 : decode prog_60_method_1_code 55 = .ok (.aload_n 0, 1) := by decide +kernel
theorem d1_56 : decode prog_60_method_1_code 56 = .ok (.iload_n 2, 1) := by decide +kernel
theorem d1_57 : decode prog_60_method_1_code 57 = .ok (.putfield 22, 3) := by decide +kernel
theorem d1_60 : decode prog_60_method_1_code 60 = .ok (.return_, 1) := by decide +kernel
theorem pn_1 : plainName "com/example/kostyashki/kostyashki/tiles/Tile" = true := by first | (simp [plainName, overriddenIn]; done) | decide +kernel
theorem ef_1 (m : MethodId) (x0 : Addr) (x1 : Int32) (x2 : Int32) : entryFrame m #[(.ref x0), (.int x1), (.int x2)] 4 = mkF m 0 #[.val (.ref x0), .val (.int x1), .val (.int x2), .unset] [] := by first | (simp [entryFrame, mkF, argsToLocals, Value.category]; done) | rfl
def Q1 (Z : State) (a1 : Addr) (p2 : Int32) (p3 : Int32) (u1 : Value) (u2 : Value) (h0 : Heap) (n0 : Nat) (v : Option Value) (h : Heap) (L : List Loc) : Prop := v = none ∧ Fr n0 L ∧ Keep h0 h [a1] ∧ Exa Z h a1 "com/example/kostyashki/kostyashki/tiles/Tile" ∧ Fld Z h a1 "com/example/kostyashki/kostyashki/tiles/Tile" "low" "I" (.int (own_lo p2 p3)) ∧ Fld Z h a1 "com/example/kostyashki/kostyashki/tiles/Tile" "high" "I" (.int (own_hi p2 p3))
abbrev R1 : Room := { frames := 2, cells := 0, slots := 0, locals := 24 }
set_option maxRecDepth 65536 in
set_option maxHeartbeats 40000000 in
theorem rm1 (l : Launch) (Z : State) (a0 : Array Value) (hw : ∀ d ∈ tables_1, d.before a0 Z = true) (ws : List Jvm.Cond) (a1 : Addr) (p2 : Int32) (p3 : Int32) (u1 : Value) (u2 : Value) (h0 : Heap) (n0 : Nat) (Z0 : n0 ≤ h0.size) (E_a1 : Exa Z h0 a1 "com/example/kostyashki/kostyashki/tiles/Tile") (F_low_a1 : Fld Z h0 a1 "com/example/kostyashki/kostyashki/tiles/Tile" "low" "I" u1) (F_high_a1 : Fld Z h0 a1 "com/example/kostyashki/kostyashki/tiles/Tile" "high" "I" u2) (g_a1 : n0 ≤ a1) (hp1 : ¬ (p2 < (0 : Int32))) (hp2 : ¬ ((6 : Int32) < p2)) (hp3 : ¬ (p3 < (0 : Int32))) (hp4 : ¬ ((6 : Int32) < p3)) :
    MetFree l (⟨"com/example/kostyashki/kostyashki/tiles/Tile", "<init>", "(II)V"⟩ : MethodName) (head1 (Jvm.Cond.code (⟨"com/example/kostyashki/kostyashki/tiles/Tile", "<init>", "(II)V"⟩ : MethodName) prog_60_method_1_code 4 none :: ws) R1) (fun a U => a = #[(.ref a1), (.int p2), (.int p3)] ∧ Z.Warmed39 U.vm ∧ U.heap = h0) (fun _ _ _ _ _ => True) (fun _ U o U' => ∃ v L, o = .returned v ∧ Q1 Z a1 p2 p3 u1 u2 h0 n0 v U'.heap L ∧ FrameEnd U o U' L R1.cells R1.slots) := by
  refine MetFree.of_bodySF (plainFor_of_name pn_1) hisR ?_
  intro p e s m args below meth c s₁ Bd hml0 hP hK
  obtain ⟨rfl, hZ, hh⟩ := hP
  have hx := Bd.exec
  have hby := Bd.bytes
  have hlk : meth.locks = false := BodyLoose.notSynchronized Bd
  have hml : c.maxLocals = 4 := hml0
  have hown : s.vm.findClass "com/example/kostyashki/kostyashki/tiles/Tile" = some m.cls := findClass_of_methodNamed Bd.named
  have hnm := (name_of_methodNamed Bd.named Bd.method).1
  have X0 : Stand p l e R1 s m #[(.ref a1), (.int p2), (.int p3)] below meth c s₁ [] 0 0 := Stand.of_body Bd
  have e0 : s₁.heap = h0 := by rw [← hh, Bd.state]; rfl
  have N0 := Fr.nil n0
  show own_Goes p e below s (Q1 Z a1 p2 p3 u1 u2 h0 n0) R1.cells R1.slots s₁ (entryFrame m #[(.ref a1), (.int p2), (.int p3)] 4)
  rw [ef_1 m a1 p2 p3]
  refine own_step (f' := (mkF m 1 #[.val (.ref a1), .val (.int p2), .val (.int p3), .unset] [(.ref a1)])) (fun _ k => XS.aloadN X0.here hx rfl (hb hby d1_0) rfl rfl k) ?_
  have Zq1 : n0 ≤ h0.size := Z0
  obtain ⟨_, _, ⟨T1, L1, k1, n1⟩, -, X1, ⟨Lc1, hQ1, l1, y1, z1⟩, st1⟩ := X0.specialBack hx (y := (⟨"java/lang/Record", "<init>", "()V"⟩ : MethodName)) rfl hown (mvT hZ (hw _ (List.mem_of_getElem? (i := 7) rfl))) (mvT hZ (hw _ (List.mem_of_getElem? (i := 8) rfl))) (mvT hZ (hw _ (List.mem_of_getElem? (i := 11) rfl))) (by decide) (backOf (W := 0) (rm2 l Z a0 hw [] a1 h0 n0 Zq1 ) hZ (hw _ (List.mem_of_getElem? (i := 11) rfl)) (hw _ (List.mem_of_getElem? (i := 10) rfl)) (by decide) (by decide)) (g := (mkF m 1 #[.val (.ref a1), .val (.int p2), .val (.int p3), .unset] [(.ref a1)])) rfl (by rw [hml]; rfl) (Steps.refl _) (a := a1) (argsL := []) (rest := []) (lenOf pd_0 rfl) rfl (by show 2 * 0 + _ ≤ _; exact Nat.le_of_eq rfl) (hb hby d1_1) (fun _ _ => ⟨rfl, e0, (by decide : 0 + 0 ≤ _), (by decide : 0 + 0 ≤ _)⟩)
  dsimp only [Pt.U, Pt.locs, Pt.cells, Pt.slots] at X1 l1 y1 z1 st1 hQ1
  subst l1 y1 z1
  obtain ⟨rfl, rfl, e1⟩ := hQ1
  try rw [List.append_nil] at X1
  refine own_jump (f' := (mkF m 4 #[.val (.ref a1), .val (.int p2), .val (.int p3), .unset] [])) st1 ?_
  refine own_step (f' := (mkF m 5 #[.val (.ref a1), .val (.int p2), .val (.int p3), .unset] [(.int p2)])) (fun _ k => XS.iloadN X1.here hx rfl (hb hby d1_4) rfl k) ?_
  have hf5_2 : ¬ (p2 < (0 : Int32)) := hp1
  refine own_step (f' := (mkF m 8 #[.val (.ref a1), .val (.int p2), .val (.int p3), .unset] [])) (fun _ k => XS.ifNo X1.here hx rfl (hb hby d1_5) rfl ((if0 _ _).trans (flt hf5_2).1) k) ?_
  refine own_step (f' := (mkF m 9 #[.val (.ref a1), .val (.int p2), .val (.int p3), .unset] [(.int p2)])) (fun _ k => XS.iloadN X1.here hx rfl (hb hby d1_8) rfl k) ?_
  refine own_step (f' := (mkF m 11 #[.val (.ref a1), .val (.int p2), .val (.int p3), .unset] [(.int (6 : Int32)), (.int p2)])) (fun _ k => XS.bipush X1.here hx rfl (hb hby d1_9) k) ?_
  have hf11_3 : ¬ ((6 : Int32) < p2) := hp2
  refine own_step (f' := (mkF m 14 #[.val (.ref a1), .val (.int p2), .val (.int p3), .unset] [])) (fun _ k => XS.icmpNo X1.here hx rfl (hb hby d1_11) rfl (flt hf11_3).2.2.1 k) ?_
  refine own_step (f' := (mkF m 15 #[.val (.ref a1), .val (.int p2), .val (.int p3), .unset] [(.int p3)])) (fun _ k => XS.iloadN X1.here hx rfl (hb hby d1_14) rfl k) ?_
  have hf15_4 : ¬ (p3 < (0 : Int32)) := hp3
  refine own_step (f' := (mkF m 18 #[.val (.ref a1), .val (.int p2), .val (.int p3), .unset] [])) (fun _ k => XS.ifNo X1.here hx rfl (hb hby d1_15) rfl ((if0 _ _).trans (flt hf15_4).1) k) ?_
  refine own_step (f' := (mkF m 19 #[.val (.ref a1), .val (.int p2), .val (.int p3), .unset] [(.int p3)])) (fun _ k => XS.iloadN X1.here hx rfl (hb hby d1_18) rfl k) ?_
  refine own_step (f' := (mkF m 21 #[.val (.ref a1), .val (.int p2), .val (.int p3), .unset] [(.int (6 : Int32)), (.int p3)])) (fun _ k => XS.bipush X1.here hx rfl (hb hby d1_19) k) ?_
  have hf21_5 : ¬ ((6 : Int32) < p3) := hp4
  refine own_step (f' := (mkF m 39 #[.val (.ref a1), .val (.int p2), .val (.int p3), .unset] [])) (fun _ k => XS.icmpYes X1.here hx rfl (pc0 := 21) (pc' := 39) rfl (hb hby d1_21) rfl (flt hf21_5).2.2.2 (by decide) (by decide) k) ?_
  refine own_step (f' := (mkF m 40 #[.val (.ref a1), .val (.int p2), .val (.int p3), .unset] [(.int p2)])) (fun _ k => XS.iloadN X1.here hx rfl (hb hby d1_39) rfl k) ?_
  refine own_step (f' := (mkF m 41 #[.val (.ref a1), .val (.int p2), .val (.int p3), .unset] [(.int p3), (.int p2)])) (fun _ k => XS.iloadN X1.here hx rfl (hb hby d1_40) rfl k) ?_
  have J41_7 : ∀ (T41_7 : State) (v41_7_l1 : Int32) (v41_7_l2 : Int32) (y41_7_l3 : Slot), Stand p l e R1 s m #[(.ref a1), (.int p2), (.int p3)] below meth c T41_7 [] 0 0 → T41_7.heap = h0 → v41_7_l1 = (if p3 < p2 then p3 else p2) → v41_7_l2 = (if p3 < p2 then p2 else p3) → own_Goes p e below s (Q1 Z a1 p2 p3 u1 u2 h0 n0) R1.cells R1.slots T41_7 (mkF m 50 #[.val (.ref a1), .val (.int v41_7_l1), .val (.int v41_7_l2), y41_7_l3] []) := by
    intro T41_7 v41_7_l1 v41_7_l2 y41_7_l3 X41_7 e41_7 hv41_7_0 hv41_7_1
    refine own_step (f' := (mkF m 51 #[.val (.ref a1), .val (.int v41_7_l1), .val (.int v41_7_l2), y41_7_l3] [(.ref a1)])) (fun _ k => XS.aloadN X41_7.here hx rfl (hb hby d1_50) rfl rfl k) ?_
    refine own_step (f' := (mkF m 52 #[.val (.ref a1), .val (.int v41_7_l1), .val (.int v41_7_l2), y41_7_l3] [(.int v41_7_l1), (.ref a1)])) (fun _ k => XS.iloadN X41_7.here hx rfl (hb hby d1_51) rfl k) ?_
    obtain ⟨T8, h8, X8, e8, W8, st8⟩ := putF X41_7 hx hZ hown (host := "") (Or.inl (hw _ (List.mem_of_getElem? (i := 15) rfl))) Via.refl e41_7 F_low_a1 E_a1 (Or.inr ⟨(hw _ (List.mem_of_getElem? (i := 16) rfl)), rfl, hnm⟩) (hw _ (List.mem_of_getElem? (i := 2) rfl)) (ty := .int) (by decide) rfl rfl (g := (mkF m 52 #[.val (.ref a1), .val (.int v41_7_l1), .val (.int v41_7_l2), y41_7_l3] [(.int v41_7_l1), (.ref a1)])) rfl rfl (hb hby d1_52)
    obtain ⟨Lo8, X8, N8⟩ : ∃ K, Stand p l e R1 s m #[(.ref a1), (.int p2), (.int p3)] below meth c T8 K 0 0 ∧ Fr n0 K := ⟨_, X8, (Fr.snoc X8 N0 g_a1)⟩
    refine own_step (f' := (mkF m 55 #[.val (.ref a1), .val (.int v41_7_l1), .val (.int v41_7_l2), y41_7_l3] [])) st8 ?_
    refine own_step (f' := (mkF m 56 #[.val (.ref a1), .val (.int v41_7_l1), .val (.int v41_7_l2), y41_7_l3] [(.ref a1)])) (fun _ k => XS.aloadN X8.here hx rfl (hb hby d1_55) rfl rfl k) ?_
    refine own_step (f' := (mkF m 57 #[.val (.ref a1), .val (.int v41_7_l1), .val (.int v41_7_l2), y41_7_l3] [(.int v41_7_l2), (.ref a1)])) (fun _ k => XS.iloadN X8.here hx rfl (hb hby d1_56) rfl k) ?_
    obtain ⟨T9, h9, X9, e9, W9, st9⟩ := putF X8 hx hZ hown (host := "") (Or.inl (hw _ (List.mem_of_getElem? (i := 17) rfl))) Via.refl e8 (F_high_a1.other W8 (Or.inr (slot_ne (Or.inr (hw _ (List.mem_of_getElem? (i := 18) rfl))) (Or.inr (hw _ (List.mem_of_getElem? (i := 16) rfl))) (by decide) (t := .int) (t' := .int) (by decide) (by decide)))) (E_a1.wr W8) (Or.inr ⟨(hw _ (List.mem_of_getElem? (i := 18) rfl)), rfl, hnm⟩) (hw _ (List.mem_of_getElem? (i := 2) rfl)) (ty := .int) (by decide) rfl rfl (g := (mkF m 57 #[.val (.ref a1), .val (.int v41_7_l1), .val (.int v41_7_l2), y41_7_l3] [(.int v41_7_l2), (.ref a1)])) rfl rfl (hb hby d1_57)
    obtain ⟨Lo9, X9, N9⟩ : ∃ K, Stand p l e R1 s m #[(.ref a1), (.int p2), (.int p3)] below meth c T9 K 0 0 ∧ Fr n0 K := ⟨_, X9, (Fr.snoc X9 N8 g_a1)⟩
    refine own_step (f' := (mkF m 60 #[.val (.ref a1), .val (.int v41_7_l1), .val (.int v41_7_l2), y41_7_l3] [])) st9 ?_
    refine own_out (v := none) X9 hlk (fun _ => rfl) (fun fs hr => X9.returnOut hx Bd.returns (hb hby d1_60) hr) (by decide) (by decide) ?_
    subst hv41_7_0 hv41_7_1
    rw [e9]
    exact ⟨rfl, N9, (((Keep.refl h0 [a1]).wr W8 (Or.inl (List.mem_of_getElem? (i := 0) rfl))).wr W9 (Or.inl (List.mem_of_getElem? (i := 0) rfl))), ((E_a1.wr W8).wr W9), ((F_low_a1.same W8).other W9 (Or.inr (slot_ne (Or.inr (hw _ (List.mem_of_getElem? (i := 16) rfl))) (Or.inr (hw _ (List.mem_of_getElem? (i := 18) rfl))) (by decide) (t := .int) (t' := .int) (by decide) (by decide)))), ((F_high_a1.other W8 (Or.inr (slot_ne (Or.inr (hw _ (List.mem_of_getElem? (i := 18) rfl))) (Or.inr (hw _ (List.mem_of_getElem? (i := 16) rfl))) (by decide) (t := .int) (t' := .int) (by decide) (by decide)))).same W9)⟩
  by_cases hc41_6 : p3 < p2
  · refine own_step (f' := (mkF m 44 #[.val (.ref a1), .val (.int p2), .val (.int p3), .unset] [])) (fun _ k => XS.icmpNo X1.here hx rfl (hb hby d1_41) rfl (tlt hc41_6).2.2.2 k) ?_
    refine own_step (f' := (mkF m 45 #[.val (.ref a1), .val (.int p2), .val (.int p3), .unset] [(.int p2)])) (fun _ k => XS.iloadN X1.here hx rfl (hb hby d1_44) rfl k) ?_
    refine own_step (f' := (mkF m 46 #[.val (.ref a1), .val (.int p2), .val (.int p3), .val (.int p2)] [])) (fun _ k => XS.istoreN X1.here hx rfl (hb hby d1_45) rfl (l' := #[.val (.ref a1), .val (.int p2), .val (.int p3), .val (.int p2)]) rfl k) ?_
    refine own_step (f' := (mkF m 47 #[.val (.ref a1), .val (.int p2), .val (.int p3), .val (.int p2)] [(.int p3)])) (fun _ k => XS.iloadN X1.here hx rfl (hb hby d1_46) rfl k) ?_
    refine own_step (f' := (mkF m 48 #[.val (.ref a1), .val (.int p3), .val (.int p3), .val (.int p2)] [])) (fun _ k => XS.istoreN X1.here hx rfl (hb hby d1_47) rfl (l' := #[.val (.ref a1), .val (.int p3), .val (.int p3), .val (.int p2)]) rfl k) ?_
    refine own_step (f' := (mkF m 49 #[.val (.ref a1), .val (.int p3), .val (.int p3), .val (.int p2)] [(.int p2)])) (fun _ k => XS.iloadN X1.here hx rfl (hb hby d1_48) rfl k) ?_
    refine own_step (f' := (mkF m 50 #[.val (.ref a1), .val (.int p3), .val (.int p2), .val (.int p2)] [])) (fun _ k => XS.istoreN X1.here hx rfl (hb hby d1_49) rfl (l' := #[.val (.ref a1), .val (.int p3), .val (.int p2), .val (.int p2)]) rfl k) ?_
    exact J41_7 _ p3 p2 (.val (.int p2)) X1 e1 (by rw [if_pos hc41_6]) (by rw [if_pos hc41_6])
  · refine own_step (f' := (mkF m 50 #[.val (.ref a1), .val (.int p2), .val (.int p3), .unset] [])) (fun _ k => XS.icmpYes X1.here hx rfl (pc0 := 41) (pc' := 50) rfl (hb hby d1_41) rfl (flt hc41_6).2.2.2 (by decide) (by decide) k) ?_
    exact J41_7 _ p2 p3 (.unset) X1 e1 (by rw [if_neg hc41_6]) (by rw [if_neg hc41_6])
theorem own_m7 (x : Int32) : ¬ ((x &&& (2147483647 : Int32)) % (7 : Int32) < (0 : Int32)) ∧ ¬ ((6 : Int32) < (x &&& (2147483647 : Int32)) % (7 : Int32)) := by
  have h1 := c_mask x 2147483647 31 (by decide) (by decide)
  have h2 := (c_irem (x &&& 2147483647) 7 7 (by decide)).1
  simp only [Int32.lt_iff_toInt_lt]
  have e0 : (0 : Int32).toInt = 0 := by decide
  have e6 : (6 : Int32).toInt = 6 := by decide
  omega
theorem d14_0 : decode prog_60_method_11_code 0 = .ok (.aload_n 0, 1) := by decide +kernel
theorem d14_1 : decode prog_60_method_11_code 1 = .ok (.getfield 18, 3) := by decide +kernel
theorem d14_4 : decode prog_60_method_11_code 4 = .ok (.ireturn, 1) := by decide +kernel
theorem ef_14 (m : MethodId) (x0 : Addr) : entryFrame m #[(.ref x0)] 1 = mkF m 0 #[.val (.ref x0)] [] := by first | (simp [entryFrame, mkF, argsToLocals, Value.category]; done) | rfl
def Q14 (Z : State) (a1 : Addr) (q1 : Int32) (h0 : Heap) (n0 : Nat) (v : Option Value) (h : Heap) (L : List Loc) : Prop := v = some (.int q1) ∧ L = [] ∧ h = h0
abbrev R14 : Room := { frames := 0, cells := 0, slots := 0, locals := 0 }
set_option maxRecDepth 65536 in
set_option maxHeartbeats 40000000 in
theorem rm14 (l : Launch) (Z : State) (a0 : Array Value) (hw : ∀ d ∈ tables_1, d.before a0 Z = true) (ws : List Jvm.Cond) (a1 : Addr) (q1 : Int32) (h0 : Heap) (n0 : Nat) (Z0 : n0 ≤ h0.size) (F_low_a1 : Fld Z h0 a1 "com/example/kostyashki/kostyashki/tiles/Tile" "low" "I" (.int q1)) :
    MetFree l (⟨"com/example/kostyashki/kostyashki/tiles/Tile", "low", "()I"⟩ : MethodName) (head1 (Jvm.Cond.code (⟨"com/example/kostyashki/kostyashki/tiles/Tile", "low", "()I"⟩ : MethodName) prog_60_method_11_code 1 (some .int) :: ws) R14) (fun a U => a = #[(.ref a1)] ∧ Z.Warmed39 U.vm ∧ U.heap = h0) (fun _ _ _ _ _ => True) (fun _ U o U' => ∃ v L, o = .returned v ∧ Q14 Z a1 q1 h0 n0 v U'.heap L ∧ FrameEnd U o U' L R14.cells R14.slots) := by
  refine MetFree.of_bodySF (plainFor_of_name pn_1) hisR ?_
  intro p e s m args below meth c s₁ Bd hml0 hP hK
  obtain ⟨rfl, hZ, hh⟩ := hP
  have hx := Bd.exec
  have hby := Bd.bytes
  have hlk : meth.locks = false := BodyLoose.notSynchronized Bd
  have hml : c.maxLocals = 1 := hml0
  have hown : s.vm.findClass "com/example/kostyashki/kostyashki/tiles/Tile" = some m.cls := findClass_of_methodNamed Bd.named
  have hnm := (name_of_methodNamed Bd.named Bd.method).1
  have X0 : Stand p l e R14 s m #[(.ref a1)] below meth c s₁ [] 0 0 := Stand.of_body Bd
  have e0 : s₁.heap = h0 := by rw [← hh, Bd.state]; rfl
  have N0 := Fr.nil n0
  show own_Goes p e below s (Q14 Z a1 q1 h0 n0) R14.cells R14.slots s₁ (entryFrame m #[(.ref a1)] 1)
  rw [ef_14 m a1]
  refine own_step (f' := (mkF m 1 #[.val (.ref a1)] [(.ref a1)])) (fun _ k => XS.aloadN X0.here hx rfl (hb hby d14_0) rfl rfl k) ?_
  obtain ⟨T1, X1, e1, st1⟩ := getF X0 hx hZ hown (host := "") (Or.inl (hw _ (List.mem_of_getElem? (i := 15) rfl))) Via.refl e0 F_low_a1 (g := (mkF m 1 #[.val (.ref a1)] [(.ref a1)])) rfl rfl (hb hby d14_1)
  refine own_step (f' := (mkF m 4 #[.val (.ref a1)] [(.int q1)])) st1 ?_
  refine own_out (v := some (.int q1)) X1 hlk (fun h => by rw [Bd.returns] at h; cases h) (fun fs hr => retOut X1 hx Bd.returns rfl (Or.inl ⟨rfl, Or.inl rfl, _, rfl⟩) (hb hby d14_4) hr) (by decide) (by decide) ?_
  rw [e1]
  exact ⟨rfl, rfl, rfl⟩
theorem d16_0 : decode prog_60_method_12_code 0 = .ok (.aload_n 0, 1) := by decide +kernel
theorem d16_1 : decode prog_60_method_12_code 1 = .ok (.getfield 22, 3) := by decide +kernel
theorem d16_4 : decode prog_60_method_12_code 4 = .ok (.ireturn, 1) := by decide +kernel
theorem ef_16 (m : MethodId) (x0 : Addr) : entryFrame m #[(.ref x0)] 1 = mkF m 0 #[.val (.ref x0)] [] := by first | (simp [entryFrame, mkF, argsToLocals, Value.category]; done) | rfl
def Q16 (Z : State) (a1 : Addr) (q1 : Int32) (h0 : Heap) (n0 : Nat) (v : Option Value) (h : Heap) (L : List Loc) : Prop := v = some (.int q1) ∧ L = [] ∧ h = h0
abbrev R16 : Room := { frames := 0, cells := 0, slots := 0, locals := 0 }
set_option maxRecDepth 65536 in
set_option maxHeartbeats 40000000 in
theorem rm16 (l : Launch) (Z : State) (a0 : Array Value) (hw : ∀ d ∈ tables_1, d.before a0 Z = true) (ws : List Jvm.Cond) (a1 : Addr) (q1 : Int32) (h0 : Heap) (n0 : Nat) (Z0 : n0 ≤ h0.size) (F_high_a1 : Fld Z h0 a1 "com/example/kostyashki/kostyashki/tiles/Tile" "high" "I" (.int q1)) :
    MetFree l (⟨"com/example/kostyashki/kostyashki/tiles/Tile", "high", "()I"⟩ : MethodName) (head1 (Jvm.Cond.code (⟨"com/example/kostyashki/kostyashki/tiles/Tile", "high", "()I"⟩ : MethodName) prog_60_method_12_code 1 (some .int) :: ws) R16) (fun a U => a = #[(.ref a1)] ∧ Z.Warmed39 U.vm ∧ U.heap = h0) (fun _ _ _ _ _ => True) (fun _ U o U' => ∃ v L, o = .returned v ∧ Q16 Z a1 q1 h0 n0 v U'.heap L ∧ FrameEnd U o U' L R16.cells R16.slots) := by
  refine MetFree.of_bodySF (plainFor_of_name pn_1) hisR ?_
  intro p e s m args below meth c s₁ Bd hml0 hP hK
  obtain ⟨rfl, hZ, hh⟩ := hP
  have hx := Bd.exec
  have hby := Bd.bytes
  have hlk : meth.locks = false := BodyLoose.notSynchronized Bd
  have hml : c.maxLocals = 1 := hml0
  have hown : s.vm.findClass "com/example/kostyashki/kostyashki/tiles/Tile" = some m.cls := findClass_of_methodNamed Bd.named
  have hnm := (name_of_methodNamed Bd.named Bd.method).1
  have X0 : Stand p l e R16 s m #[(.ref a1)] below meth c s₁ [] 0 0 := Stand.of_body Bd
  have e0 : s₁.heap = h0 := by rw [← hh, Bd.state]; rfl
  have N0 := Fr.nil n0
  show own_Goes p e below s (Q16 Z a1 q1 h0 n0) R16.cells R16.slots s₁ (entryFrame m #[(.ref a1)] 1)
  rw [ef_16 m a1]
  refine own_step (f' := (mkF m 1 #[.val (.ref a1)] [(.ref a1)])) (fun _ k => XS.aloadN X0.here hx rfl (hb hby d16_0) rfl rfl k) ?_
  obtain ⟨T1, X1, e1, st1⟩ := getF X0 hx hZ hown (host := "") (Or.inl (hw _ (List.mem_of_getElem? (i := 17) rfl))) Via.refl e0 F_high_a1 (g := (mkF m 1 #[.val (.ref a1)] [(.ref a1)])) rfl rfl (hb hby d16_1)
  refine own_step (f' := (mkF m 4 #[.val (.ref a1)] [(.int q1)])) st1 ?_
  refine own_out (v := some (.int q1)) X1 hlk (fun h => by rw [Bd.returns] at h; cases h) (fun fs hr => retOut X1 hx Bd.returns rfl (Or.inl ⟨rfl, Or.inl rfl, _, rfl⟩) (hb hby d16_4) hr) (by decide) (by decide) ?_
  rw [e1]
  exact ⟨rfl, rfl, rfl⟩
def own_min (x y : Int32) : Int32 := if y < x then y else x
def own_max (x y : Int32) : Int32 := if x < y then y else x
theorem d15_0 : decode jdk_29_method_69_code 0 = .ok (.iload_n 0, 1) := by decide +kernel
theorem d15_1 : decode jdk_29_method_69_code 1 = .ok (.iload_n 1, 1) := by decide +kernel
theorem d15_2 : decode jdk_29_method_69_code 2 = .ok (.if_icmp .gt 7, 3) := by decide +kernel
theorem d15_5 : decode jdk_29_method_69_code 5 = .ok (.iload_n 0, 1) := by decide +kernel
theorem d15_6 : decode jdk_29_method_69_code 6 = .ok (.goto 4, 3) := by decide +kernel
theorem d15_9 : decode jdk_29_method_69_code 9 = .ok (.iload_n 1, 1) := by decide +kernel
theorem d15_10 : decode jdk_29_method_69_code 10 = .ok (.ireturn, 1) := by decide +kernel
theorem ef_15 (m : MethodId) (x0 : Int32) (x1 : Int32) : entryFrame m #[(.int x0), (.int x1)] 2 = mkF m 0 #[.val (.int x0), .val (.int x1)] [] := by first | (simp [entryFrame, mkF, argsToLocals, Value.category]; done) | rfl
def Q15 (Z : State) (p1 : Int32) (p2 : Int32) (h0 : Heap) (n0 : Nat) (v : Option Value) (h : Heap) (L : List Loc) : Prop := v = some (.int (own_min p1 p2)) ∧ L = [] ∧ h = h0
abbrev R15 : Room := { frames := 0, cells := 0, slots := 0, locals := 0 }
set_option maxRecDepth 65536 in
set_option maxHeartbeats 40000000 in
theorem rm15 (l : Launch) (Z : State) (a0 : Array Value) (hw : ∀ d ∈ tables_1, d.before a0 Z = true) (ws : List Jvm.Cond) (p1 : Int32) (p2 : Int32) (h0 : Heap) (n0 : Nat) (Z0 : n0 ≤ h0.size)  :
    MetFree l (⟨"java/lang/Math", "min", "(II)I"⟩ : MethodName) (head1 (Jvm.Cond.code (⟨"java/lang/Math", "min", "(II)I"⟩ : MethodName) jdk_29_method_69_code 2 (some .int) :: ws) R15) (fun a U => a = #[(.int p1), (.int p2)] ∧ Z.Warmed39 U.vm ∧ U.heap = h0) (fun _ _ _ _ _ => True) (fun _ U o U' => ∃ v L, o = .returned v ∧ Q15 Z p1 p2 h0 n0 v U'.heap L ∧ FrameEnd U o U' L R15.cells R15.slots) := by
  refine MetFree.of_bodySF (Jvm.Free.JP.mathPlain rfl (by decide +kernel)) hisR ?_
  intro p e s m args below meth c s₁ Bd hml0 hP hK
  obtain ⟨rfl, hZ, hh⟩ := hP
  have hx := Bd.exec
  have hby := Bd.bytes
  have hlk : meth.locks = false := BodyLoose.notSynchronized Bd
  have hml : c.maxLocals = 2 := hml0
  have hown : s.vm.findClass "java/lang/Math" = some m.cls := findClass_of_methodNamed Bd.named
  have hnm := (name_of_methodNamed Bd.named Bd.method).1
  have X0 : Stand p l e R15 s m #[(.int p1), (.int p2)] below meth c s₁ [] 0 0 := Stand.of_body Bd
  have e0 : s₁.heap = h0 := by rw [← hh, Bd.state]; rfl
  have N0 := Fr.nil n0
  show own_Goes p e below s (Q15 Z p1 p2 h0 n0) R15.cells R15.slots s₁ (entryFrame m #[(.int p1), (.int p2)] 2)
  rw [ef_15 m p1 p2]
  refine own_step (f' := (mkF m 1 #[.val (.int p1), .val (.int p2)] [(.int p1)])) (fun _ k => XS.iloadN X0.here hx rfl (hb hby d15_0) rfl k) ?_
  refine own_step (f' := (mkF m 2 #[.val (.int p1), .val (.int p2)] [(.int p2), (.int p1)])) (fun _ k => XS.iloadN X0.here hx rfl (hb hby d15_1) rfl k) ?_
  by_cases hc2_1 : p2 < p1
  · refine own_step (f' := (mkF m 9 #[.val (.int p1), .val (.int p2)] [])) (fun _ k => XS.icmpYes X0.here hx rfl (pc0 := 2) (pc' := 9) rfl (hb hby d15_2) rfl (tlt hc2_1).2.2.1 (by decide) (by decide) k) ?_
    refine own_step (f' := (mkF m 10 #[.val (.int p1), .val (.int p2)] [(.int p2)])) (fun _ k => XS.iloadN X0.here hx rfl (hb hby d15_9) rfl k) ?_
    refine own_out (v := some (.int p2)) X0 hlk (fun h => by rw [Bd.returns] at h; cases h) (fun fs hr => retOut X0 hx Bd.returns rfl (Or.inl ⟨rfl, Or.inl rfl, _, rfl⟩) (hb hby d15_10) hr) (by decide) (by decide) ?_
    rw [e0]
    exact ⟨(by rw [own_min, if_pos hc2_1]), rfl, rfl⟩
  · refine own_step (f' := (mkF m 5 #[.val (.int p1), .val (.int p2)] [])) (fun _ k => XS.icmpNo X0.here hx rfl (hb hby d15_2) rfl (flt hc2_1).2.2.1 k) ?_
    refine own_step (f' := (mkF m 6 #[.val (.int p1), .val (.int p2)] [(.int p1)])) (fun _ k => XS.iloadN X0.here hx rfl (hb hby d15_5) rfl k) ?_
    refine own_step (f' := (mkF m 10 #[.val (.int p1), .val (.int p2)] [(.int p1)])) (fun _ k => XS.goto X0.here hx rfl (pc0 := 6) (pc' := 10) rfl (hb hby d15_6) (by decide) (by decide) k) ?_
    refine own_out (v := some (.int p1)) X0 hlk (fun h => by rw [Bd.returns] at h; cases h) (fun fs hr => retOut X0 hx Bd.returns rfl (Or.inl ⟨rfl, Or.inl rfl, _, rfl⟩) (hb hby d15_10) hr) (by decide) (by decide) ?_
    rw [e0]
    exact ⟨(by rw [own_min, if_neg hc2_1]), rfl, rfl⟩
theorem d17_0 : decode jdk_29_method_65_code 0 = .ok (.iload_n 0, 1) := by decide +kernel
theorem d17_1 : decode jdk_29_method_65_code 1 = .ok (.iload_n 1, 1) := by decide +kernel
theorem d17_2 : decode jdk_29_method_65_code 2 = .ok (.if_icmp .lt 7, 3) := by decide +kernel
theorem d17_5 : decode jdk_29_method_65_code 5 = .ok (.iload_n 0, 1) := by decide +kernel
theorem d17_6 : decode jdk_29_method_65_code 6 = .ok (.goto 4, 3) := by decide +kernel
theorem d17_9 : decode jdk_29_method_65_code 9 = .ok (.iload_n 1, 1) := by decide +kernel
theorem d17_10 : decode jdk_29_method_65_code 10 = .ok (.ireturn, 1) := by decide +kernel
theorem ef_17 (m : MethodId) (x0 : Int32) (x1 : Int32) : entryFrame m #[(.int x0), (.int x1)] 2 = mkF m 0 #[.val (.int x0), .val (.int x1)] [] := by first | (simp [entryFrame, mkF, argsToLocals, Value.category]; done) | rfl
def Q17 (Z : State) (p1 : Int32) (p2 : Int32) (h0 : Heap) (n0 : Nat) (v : Option Value) (h : Heap) (L : List Loc) : Prop := v = some (.int (own_max p1 p2)) ∧ L = [] ∧ h = h0
abbrev R17 : Room := { frames := 0, cells := 0, slots := 0, locals := 0 }
set_option maxRecDepth 65536 in
set_option maxHeartbeats 40000000 in
theorem rm17 (l : Launch) (Z : State) (a0 : Array Value) (hw : ∀ d ∈ tables_1, d.before a0 Z = true) (ws : List Jvm.Cond) (p1 : Int32) (p2 : Int32) (h0 : Heap) (n0 : Nat) (Z0 : n0 ≤ h0.size)  :
    MetFree l (⟨"java/lang/Math", "max", "(II)I"⟩ : MethodName) (head1 (Jvm.Cond.code (⟨"java/lang/Math", "max", "(II)I"⟩ : MethodName) jdk_29_method_65_code 2 (some .int) :: ws) R17) (fun a U => a = #[(.int p1), (.int p2)] ∧ Z.Warmed39 U.vm ∧ U.heap = h0) (fun _ _ _ _ _ => True) (fun _ U o U' => ∃ v L, o = .returned v ∧ Q17 Z p1 p2 h0 n0 v U'.heap L ∧ FrameEnd U o U' L R17.cells R17.slots) := by
  refine MetFree.of_bodySF (Jvm.Free.JP.mathPlain rfl (by decide +kernel)) hisR ?_
  intro p e s m args below meth c s₁ Bd hml0 hP hK
  obtain ⟨rfl, hZ, hh⟩ := hP
  have hx := Bd.exec
  have hby := Bd.bytes
  have hlk : meth.locks = false := BodyLoose.notSynchronized Bd
  have hml : c.maxLocals = 2 := hml0
  have hown : s.vm.findClass "java/lang/Math" = some m.cls := findClass_of_methodNamed Bd.named
  have hnm := (name_of_methodNamed Bd.named Bd.method).1
  have X0 : Stand p l e R17 s m #[(.int p1), (.int p2)] below meth c s₁ [] 0 0 := Stand.of_body Bd
  have e0 : s₁.heap = h0 := by rw [← hh, Bd.state]; rfl
  have N0 := Fr.nil n0
  show own_Goes p e below s (Q17 Z p1 p2 h0 n0) R17.cells R17.slots s₁ (entryFrame m #[(.int p1), (.int p2)] 2)
  rw [ef_17 m p1 p2]
  refine own_step (f' := (mkF m 1 #[.val (.int p1), .val (.int p2)] [(.int p1)])) (fun _ k => XS.iloadN X0.here hx rfl (hb hby d17_0) rfl k) ?_
  refine own_step (f' := (mkF m 2 #[.val (.int p1), .val (.int p2)] [(.int p2), (.int p1)])) (fun _ k => XS.iloadN X0.here hx rfl (hb hby d17_1) rfl k) ?_
  by_cases hc2_1 : p1 < p2
  · refine own_step (f' := (mkF m 9 #[.val (.int p1), .val (.int p2)] [])) (fun _ k => XS.icmpYes X0.here hx rfl (pc0 := 2) (pc' := 9) rfl (hb hby d17_2) rfl (tlt hc2_1).1 (by decide) (by decide) k) ?_
    refine own_step (f' := (mkF m 10 #[.val (.int p1), .val (.int p2)] [(.int p2)])) (fun _ k => XS.iloadN X0.here hx rfl (hb hby d17_9) rfl k) ?_
    refine own_out (v := some (.int p2)) X0 hlk (fun h => by rw [Bd.returns] at h; cases h) (fun fs hr => retOut X0 hx Bd.returns rfl (Or.inl ⟨rfl, Or.inl rfl, _, rfl⟩) (hb hby d17_10) hr) (by decide) (by decide) ?_
    rw [e0]
    exact ⟨(by rw [own_max, if_pos hc2_1]), rfl, rfl⟩
  · refine own_step (f' := (mkF m 5 #[.val (.int p1), .val (.int p2)] [])) (fun _ k => XS.icmpNo X0.here hx rfl (hb hby d17_2) rfl (flt hc2_1).1 k) ?_
    refine own_step (f' := (mkF m 6 #[.val (.int p1), .val (.int p2)] [(.int p1)])) (fun _ k => XS.iloadN X0.here hx rfl (hb hby d17_5) rfl k) ?_
    refine own_step (f' := (mkF m 10 #[.val (.int p1), .val (.int p2)] [(.int p1)])) (fun _ k => XS.goto X0.here hx rfl (pc0 := 6) (pc' := 10) rfl (hb hby d17_6) (by decide) (by decide) k) ?_
    refine own_out (v := some (.int p1)) X0 hlk (fun h => by rw [Bd.returns] at h; cases h) (fun fs hr => retOut X0 hx Bd.returns rfl (Or.inl ⟨rfl, Or.inl rfl, _, rfl⟩) (hb hby d17_10) hr) (by decide) (by decide) ?_
    rw [e0]
    exact ⟨(by rw [own_max, if_neg hc2_1]), rfl, rfl⟩
theorem d5_0 : decode jdk_31_method_10_code 0 = .ok (.aload_n 0, 1) := by decide +kernel
theorem d5_1 : decode jdk_31_method_10_code 1 = .ok (.ifnonnull 11, 3) := by decide +kernel
theorem d5_12 : decode jdk_31_method_10_code 12 = .ok (.aload_n 0, 1) := by decide +kernel
theorem d5_13 : decode jdk_31_method_10_code 13 = .ok (.areturn, 1) := by decide +kernel
theorem pn_2 : plainName "java/util/Objects" = true := by first | (simp [plainName, overriddenIn]; done) | decide +kernel
theorem ef_5 (m : MethodId) (x0 : Addr) : entryFrame m #[(.ref x0)] 1 = mkF m 0 #[.val (.ref x0)] [] := by first | (simp [entryFrame, mkF, argsToLocals, Value.category]; done) | rfl
def Q5 (Z : State) (a1 : Addr) (h0 : Heap) (n0 : Nat) (v : Option Value) (h : Heap) (L : List Loc) : Prop := v = some (.ref a1) ∧ L = [] ∧ h = h0
abbrev R5 : Room := { frames := 0, cells := 0, slots := 0, locals := 0 }
set_option maxRecDepth 65536 in
set_option maxHeartbeats 40000000 in
theorem rm5 (l : Launch) (Z : State) (a0 : Array Value) (hw : ∀ d ∈ tables_1, d.before a0 Z = true) (ws : List Jvm.Cond) (a1 : Addr) (h0 : Heap) (n0 : Nat) (Z0 : n0 ≤ h0.size)  :
    MetFree l (⟨"java/util/Objects", "requireNonNull", "(Ljava/lang/Object;)Ljava/lang/Object;"⟩ : MethodName) (head1 (Jvm.Cond.code (⟨"java/util/Objects", "requireNonNull", "(Ljava/lang/Object;)Ljava/lang/Object;"⟩ : MethodName) jdk_31_method_10_code 1 (some (.object "java/lang/Object")) :: ws) R5) (fun a U => a = #[(.ref a1)] ∧ Z.Warmed39 U.vm ∧ U.heap = h0) (fun _ _ _ _ _ => True) (fun _ U o U' => ∃ v L, o = .returned v ∧ Q5 Z a1 h0 n0 v U'.heap L ∧ FrameEnd U o U' L R5.cells R5.slots) := by
  refine MetFree.of_bodySF (plainFor_of_name pn_2) hisR ?_
  intro p e s m args below meth c s₁ Bd hml0 hP hK
  obtain ⟨rfl, hZ, hh⟩ := hP
  have hx := Bd.exec
  have hby := Bd.bytes
  have hlk : meth.locks = false := BodyLoose.notSynchronized Bd
  have hml : c.maxLocals = 1 := hml0
  have hown : s.vm.findClass "java/util/Objects" = some m.cls := findClass_of_methodNamed Bd.named
  have hnm := (name_of_methodNamed Bd.named Bd.method).1
  have X0 : Stand p l e R5 s m #[(.ref a1)] below meth c s₁ [] 0 0 := Stand.of_body Bd
  have e0 : s₁.heap = h0 := by rw [← hh, Bd.state]; rfl
  have N0 := Fr.nil n0
  show own_Goes p e below s (Q5 Z a1 h0 n0) R5.cells R5.slots s₁ (entryFrame m #[(.ref a1)] 1)
  rw [ef_5 m a1]
  refine own_step (f' := (mkF m 1 #[.val (.ref a1)] [(.ref a1)])) (fun _ k => XS.aloadN X0.here hx rfl (hb hby d5_0) rfl rfl k) ?_
  refine own_step (f' := (mkF m 12 #[.val (.ref a1)] [])) (fun _ k => XS.ifnonnullYes X0.here hx rfl (pc0 := 1) (pc' := 12) rfl (hb hby d5_1) rfl (by decide) (by decide) k) ?_
  refine own_step (f' := (mkF m 13 #[.val (.ref a1)] [(.ref a1)])) (fun _ k => XS.aloadN X0.here hx rfl (hb hby d5_12) rfl rfl k) ?_
  refine own_out (v := some (.ref a1)) X0 hlk (fun h => by rw [Bd.returns] at h; cases h) (fun fs hr => retOut X0 hx Bd.returns rfl (Or.inr (Or.inr (Or.inr (Or.inr ⟨rfl, rfl, rfl⟩)))) (hb hby d5_13) hr) (by decide) (by decide) ?_
  rw [e0]
  exact ⟨rfl, rfl, rfl⟩
theorem pd_1 : parseMethodDescriptor "(Ljava/lang/Object;)Ljava/lang/Object;" = some ⟨[(.object "java/lang/Object")], some (.object "java/lang/Object")⟩ := by decide +kernel
theorem d4_0 : decode prog_44_method_1_code 0 = .ok (.aload_n 0, 1) := by decide +kernel
theorem d4_1 : decode prog_44_method_1_code 1 = .ok (.invokespecial 1, 3) := by decide +kernel
theorem d4_4 : decode prog_44_method_1_code 4 = .ok (.aload_n 1, 1) := by decide +kernel
theorem d4_5 : decode prog_44_method_1_code 5 = .ok (.invokestatic 7, 3) := by decide +kernel
theorem d4_8 : decode prog_44_method_1_code 8 = .ok (.pop, 1) := by decide +kernel
theorem d4_9 : decode prog_44_method_1_code 9 = .ok (.aload_n 2, 1) := by decide +kernel
theorem d4_10 : decode prog_44_method_1_code 10 = .ok (.invokestatic 7, 3) := by decide +kernel
theorem d4_13 : decode prog_44_method_1_code 13 = .ok (.pop, 1) := by decide +kernel
theorem d4_14 : decode prog_44_method_1_code 14 = .ok (.aload_n 0, 1) := by decide +kernel
theorem d4_15 : decode prog_44_method_1_code 15 = .ok (.aload_n 1, 1) := by decide +kernel
theorem d4_16 : decode prog_44_method_1_code 16 = .ok (.putfield 13, 3) := by decide +kernel
theorem d4_19 : decode prog_44_method_1_code 19 = .ok (.aload_n 0, 1) := by decide +kernel
theorem d4_20 : decode prog_44_method_1_code 20 = .ok (.aload_n 2, 1) := by decide +kernel
theorem d4_21 : decode prog_44_method_1_code 21 = .ok (.putfield 19, 3) := by decide +kernel
theorem d4_24 : decode prog_44_method_1_code 24 = .ok (.return_, 1) := by decide +kernel
theorem pn_3 : plainName "com/example/kostyashki/kostyashki/round/BothEnds" = true := by first | (simp [plainName, overriddenIn]; done) | decide +kernel
theorem ef_4 (m : MethodId) (x0 : Addr) (x1 : Addr) (x2 : Addr) : entryFrame m #[(.ref x0), (.ref x1), (.ref x2)] 3 = mkF m 0 #[.val (.ref x0), .val (.ref x1), .val (.ref x2)] [] := by first | (simp [entryFrame, mkF, argsToLocals, Value.category]; done) | rfl
def Q4 (Z : State) (a1 : Addr) (a2 : Addr) (a3 : Addr) (u1 : Value) (u2 : Value) (h0 : Heap) (n0 : Nat) (v : Option Value) (h : Heap) (L : List Loc) : Prop := v = none ∧ Fr n0 L ∧ Keep h0 h [a1] ∧ Exa Z h a1 "com/example/kostyashki/kostyashki/round/BothEnds" ∧ Fld Z h a1 "com/example/kostyashki/kostyashki/round/BothEnds" "first" "Lcom/example/kostyashki/kostyashki/tiles/Tile;" (.ref a2) ∧ Fld Z h a1 "com/example/kostyashki/kostyashki/round/BothEnds" "second" "Lcom/example/kostyashki/kostyashki/tiles/Tile;" (.ref a3)
abbrev R4 : Room := { frames := 2, cells := 0, slots := 0, locals := 24 }
set_option maxRecDepth 65536 in
set_option maxHeartbeats 40000000 in
theorem rm4 (l : Launch) (Z : State) (a0 : Array Value) (hw : ∀ d ∈ tables_1, d.before a0 Z = true) (ws : List Jvm.Cond) (a1 : Addr) (a2 : Addr) (a3 : Addr) (u1 : Value) (u2 : Value) (h0 : Heap) (n0 : Nat) (Z0 : n0 ≤ h0.size) (E_a1 : Exa Z h0 a1 "com/example/kostyashki/kostyashki/round/BothEnds") (F_first_a1 : Fld Z h0 a1 "com/example/kostyashki/kostyashki/round/BothEnds" "first" "Lcom/example/kostyashki/kostyashki/tiles/Tile;" u1) (F_second_a1 : Fld Z h0 a1 "com/example/kostyashki/kostyashki/round/BothEnds" "second" "Lcom/example/kostyashki/kostyashki/tiles/Tile;" u2) (g_a1 : n0 ≤ a1) :
    MetFree l (⟨"com/example/kostyashki/kostyashki/round/BothEnds", "<init>", "(Lcom/example/kostyashki/kostyashki/tiles/Tile;Lcom/example/kostyashki/kostyashki/tiles/Tile;)V"⟩ : MethodName) (head1 (Jvm.Cond.code (⟨"com/example/kostyashki/kostyashki/round/BothEnds", "<init>", "(Lcom/example/kostyashki/kostyashki/tiles/Tile;Lcom/example/kostyashki/kostyashki/tiles/Tile;)V"⟩ : MethodName) prog_44_method_1_code 3 none :: ws) R4) (fun a U => a = #[(.ref a1), (.ref a2), (.ref a3)] ∧ Z.Warmed39 U.vm ∧ U.heap = h0) (fun _ _ _ _ _ => True) (fun _ U o U' => ∃ v L, o = .returned v ∧ Q4 Z a1 a2 a3 u1 u2 h0 n0 v U'.heap L ∧ FrameEnd U o U' L R4.cells R4.slots) := by
  refine MetFree.of_bodySF (plainFor_of_name pn_3) hisR ?_
  intro p e s m args below meth c s₁ Bd hml0 hP hK
  obtain ⟨rfl, hZ, hh⟩ := hP
  have hx := Bd.exec
  have hby := Bd.bytes
  have hlk : meth.locks = false := BodyLoose.notSynchronized Bd
  have hml : c.maxLocals = 3 := hml0
  have hown : s.vm.findClass "com/example/kostyashki/kostyashki/round/BothEnds" = some m.cls := findClass_of_methodNamed Bd.named
  have hnm := (name_of_methodNamed Bd.named Bd.method).1
  have X0 : Stand p l e R4 s m #[(.ref a1), (.ref a2), (.ref a3)] below meth c s₁ [] 0 0 := Stand.of_body Bd
  have e0 : s₁.heap = h0 := by rw [← hh, Bd.state]; rfl
  have N0 := Fr.nil n0
  show own_Goes p e below s (Q4 Z a1 a2 a3 u1 u2 h0 n0) R4.cells R4.slots s₁ (entryFrame m #[(.ref a1), (.ref a2), (.ref a3)] 3)
  rw [ef_4 m a1 a2 a3]
  refine own_step (f' := (mkF m 1 #[.val (.ref a1), .val (.ref a2), .val (.ref a3)] [(.ref a1)])) (fun _ k => XS.aloadN X0.here hx rfl (hb hby d4_0) rfl rfl k) ?_
  have Zq1 : n0 ≤ h0.size := Z0
  obtain ⟨_, _, ⟨T1, L1, k1, n1⟩, -, X1, ⟨Lc1, hQ1, l1, y1, z1⟩, st1⟩ := X0.specialBack hx (y := (⟨"java/lang/Record", "<init>", "()V"⟩ : MethodName)) rfl hown (mvT hZ (hw _ (List.mem_of_getElem? (i := 25) rfl))) (mvT hZ (hw _ (List.mem_of_getElem? (i := 8) rfl))) (mvT hZ (hw _ (List.mem_of_getElem? (i := 11) rfl))) (by decide) (backOf (W := 0) (rm2 l Z a0 hw [] a1 h0 n0 Zq1 ) hZ (hw _ (List.mem_of_getElem? (i := 11) rfl)) (hw _ (List.mem_of_getElem? (i := 10) rfl)) (by decide) (by decide)) (g := (mkF m 1 #[.val (.ref a1), .val (.ref a2), .val (.ref a3)] [(.ref a1)])) rfl (by rw [hml]; rfl) (Steps.refl _) (a := a1) (argsL := []) (rest := []) (lenOf pd_0 rfl) rfl (by show 2 * 0 + _ ≤ _; exact Nat.le_of_eq rfl) (hb hby d4_1) (fun _ _ => ⟨rfl, e0, (by decide : 0 + 0 ≤ _), (by decide : 0 + 0 ≤ _)⟩)
  dsimp only [Pt.U, Pt.locs, Pt.cells, Pt.slots] at X1 l1 y1 z1 st1 hQ1
  subst l1 y1 z1
  obtain ⟨rfl, rfl, e1⟩ := hQ1
  try rw [List.append_nil] at X1
  refine own_jump (f' := (mkF m 4 #[.val (.ref a1), .val (.ref a2), .val (.ref a3)] [])) st1 ?_
  refine own_step (f' := (mkF m 5 #[.val (.ref a1), .val (.ref a2), .val (.ref a3)] [(.ref a2)])) (fun _ k => XS.aloadN X1.here hx rfl (hb hby d4_4) rfl rfl k) ?_
  have Zq2 : n0 ≤ h0.size := Z0
  obtain ⟨_, _, ⟨T2, L2, k2, n2⟩, -, X2, ⟨Lc2, hQ2, l2, y2, z2⟩, st2⟩ := Jvm.LawKit.callS X1 hx (y := (⟨"java/util/Objects", "requireNonNull", "(Ljava/lang/Object;)Ljava/lang/Object;"⟩ : MethodName)) hown (mvT hZ (hw _ (List.mem_of_getElem? (i := 26) rfl))) (mvT hZ (hw _ (List.mem_of_getElem? (i := 27) rfl))) (mvT hZ (hw _ (List.mem_of_getElem? (i := 28) rfl))) (mvT hZ (hw _ (List.mem_of_getElem? (i := 29) rfl))) (by decide) (backOf (W := 0) (rm5 l Z a0 hw [] a2 h0 n0 Zq2 ) hZ (hw _ (List.mem_of_getElem? (i := 29) rfl)) (hw _ (List.mem_of_getElem? (i := 28) rfl)) (by decide) (by decide)) (g := (mkF m 5 #[.val (.ref a1), .val (.ref a2), .val (.ref a3)] [(.ref a2)])) rfl (by rw [hml]; rfl) (argsL := [(.ref a2)]) (rest := []) (lenOf pd_1 rfl) rfl (by show 2 * 0 + _ ≤ _; exact Nat.le_of_eq rfl) (hb hby d4_5) (fun _ _ => ⟨rfl, e1, (by decide : 0 + 0 ≤ _), (by decide : 0 + 0 ≤ _)⟩)
  dsimp only [Pt.U, Pt.locs, Pt.cells, Pt.slots] at X2 l2 y2 z2 st2 hQ2
  subst l2 y2 z2
  obtain ⟨rfl, rfl, e2⟩ := hQ2
  try rw [List.append_nil] at X2
  refine own_step (f' := (mkF m 8 #[.val (.ref a1), .val (.ref a2), .val (.ref a3)] [(.ref a2)])) st2 ?_
  refine own_step (f' := (mkF m 9 #[.val (.ref a1), .val (.ref a2), .val (.ref a3)] [])) (fun _ k => XS.pop X2.here hx rfl (hb hby d4_8) rfl rfl k) ?_
  refine own_step (f' := (mkF m 10 #[.val (.ref a1), .val (.ref a2), .val (.ref a3)] [(.ref a3)])) (fun _ k => XS.aloadN X2.here hx rfl (hb hby d4_9) rfl rfl k) ?_
  have Zq3 : n0 ≤ h0.size := Z0
  obtain ⟨_, _, ⟨T3, L3, k3, n3⟩, -, X3, ⟨Lc3, hQ3, l3, y3, z3⟩, st3⟩ := Jvm.LawKit.callS X2 hx (y := (⟨"java/util/Objects", "requireNonNull", "(Ljava/lang/Object;)Ljava/lang/Object;"⟩ : MethodName)) hown (mvT hZ (hw _ (List.mem_of_getElem? (i := 26) rfl))) (mvT hZ (hw _ (List.mem_of_getElem? (i := 27) rfl))) (mvT hZ (hw _ (List.mem_of_getElem? (i := 28) rfl))) (mvT hZ (hw _ (List.mem_of_getElem? (i := 29) rfl))) (by decide) (backOf (W := 0) (rm5 l Z a0 hw [] a3 h0 n0 Zq3 ) hZ (hw _ (List.mem_of_getElem? (i := 29) rfl)) (hw _ (List.mem_of_getElem? (i := 28) rfl)) (by decide) (by decide)) (g := (mkF m 10 #[.val (.ref a1), .val (.ref a2), .val (.ref a3)] [(.ref a3)])) rfl (by rw [hml]; rfl) (argsL := [(.ref a3)]) (rest := []) (lenOf pd_1 rfl) rfl (by show 2 * 0 + _ ≤ _; exact Nat.le_of_eq rfl) (hb hby d4_10) (fun _ _ => ⟨rfl, e2, (by decide : 0 + 0 ≤ _), (by decide : 0 + 0 ≤ _)⟩)
  dsimp only [Pt.U, Pt.locs, Pt.cells, Pt.slots] at X3 l3 y3 z3 st3 hQ3
  subst l3 y3 z3
  obtain ⟨rfl, rfl, e3⟩ := hQ3
  try rw [List.append_nil] at X3
  refine own_step (f' := (mkF m 13 #[.val (.ref a1), .val (.ref a2), .val (.ref a3)] [(.ref a3)])) st3 ?_
  refine own_step (f' := (mkF m 14 #[.val (.ref a1), .val (.ref a2), .val (.ref a3)] [])) (fun _ k => XS.pop X3.here hx rfl (hb hby d4_13) rfl rfl k) ?_
  refine own_step (f' := (mkF m 15 #[.val (.ref a1), .val (.ref a2), .val (.ref a3)] [(.ref a1)])) (fun _ k => XS.aloadN X3.here hx rfl (hb hby d4_14) rfl rfl k) ?_
  refine own_step (f' := (mkF m 16 #[.val (.ref a1), .val (.ref a2), .val (.ref a3)] [(.ref a2), (.ref a1)])) (fun _ k => XS.aloadN X3.here hx rfl (hb hby d4_15) rfl rfl k) ?_
  obtain ⟨T4, h4, X4, e4, W4, st4⟩ := putF X3 hx hZ hown (host := "") (Or.inl (hw _ (List.mem_of_getElem? (i := 30) rfl))) Via.refl e3 F_first_a1 E_a1 (Or.inr ⟨(hw _ (List.mem_of_getElem? (i := 31) rfl)), rfl, hnm⟩) (hw _ (List.mem_of_getElem? (i := 20) rfl)) (ty := (.object "com/example/kostyashki/kostyashki/tiles/Tile")) (by decide) rfl rfl (g := (mkF m 16 #[.val (.ref a1), .val (.ref a2), .val (.ref a3)] [(.ref a2), (.ref a1)])) rfl rfl (hb hby d4_16)
  obtain ⟨Lo4, X4, N4⟩ : ∃ K, Stand p l e R4 s m #[(.ref a1), (.ref a2), (.ref a3)] below meth c T4 K 0 0 ∧ Fr n0 K := ⟨_, X4, (Fr.snoc X4 N0 g_a1)⟩
  refine own_step (f' := (mkF m 19 #[.val (.ref a1), .val (.ref a2), .val (.ref a3)] [])) st4 ?_
  refine own_step (f' := (mkF m 20 #[.val (.ref a1), .val (.ref a2), .val (.ref a3)] [(.ref a1)])) (fun _ k => XS.aloadN X4.here hx rfl (hb hby d4_19) rfl rfl k) ?_
  refine own_step (f' := (mkF m 21 #[.val (.ref a1), .val (.ref a2), .val (.ref a3)] [(.ref a3), (.ref a1)])) (fun _ k => XS.aloadN X4.here hx rfl (hb hby d4_20) rfl rfl k) ?_
  obtain ⟨T5, h5, X5, e5, W5, st5⟩ := putF X4 hx hZ hown (host := "") (Or.inl (hw _ (List.mem_of_getElem? (i := 32) rfl))) Via.refl e4 (F_second_a1.other W4 (Or.inr (slot_ne (Or.inr (hw _ (List.mem_of_getElem? (i := 33) rfl))) (Or.inr (hw _ (List.mem_of_getElem? (i := 31) rfl))) (by decide) (t := (.object "com/example/kostyashki/kostyashki/tiles/Tile")) (t' := (.object "com/example/kostyashki/kostyashki/tiles/Tile")) (by decide) (by decide)))) (E_a1.wr W4) (Or.inr ⟨(hw _ (List.mem_of_getElem? (i := 33) rfl)), rfl, hnm⟩) (hw _ (List.mem_of_getElem? (i := 20) rfl)) (ty := (.object "com/example/kostyashki/kostyashki/tiles/Tile")) (by decide) rfl rfl (g := (mkF m 21 #[.val (.ref a1), .val (.ref a2), .val (.ref a3)] [(.ref a3), (.ref a1)])) rfl rfl (hb hby d4_21)
  obtain ⟨Lo5, X5, N5⟩ : ∃ K, Stand p l e R4 s m #[(.ref a1), (.ref a2), (.ref a3)] below meth c T5 K 0 0 ∧ Fr n0 K := ⟨_, X5, (Fr.snoc X5 N4 g_a1)⟩
  refine own_step (f' := (mkF m 24 #[.val (.ref a1), .val (.ref a2), .val (.ref a3)] [])) st5 ?_
  refine own_out (v := none) X5 hlk (fun _ => rfl) (fun fs hr => X5.returnOut hx Bd.returns (hb hby d4_24) hr) (by decide) (by decide) ?_
  rw [e5]
  exact ⟨rfl, N5, (((Keep.refl h0 [a1]).wr W4 (Or.inl (List.mem_of_getElem? (i := 0) rfl))).wr W5 (Or.inl (List.mem_of_getElem? (i := 0) rfl))), ((E_a1.wr W4).wr W5), ((F_first_a1.same W4).other W5 (Or.inr (slot_ne (Or.inr (hw _ (List.mem_of_getElem? (i := 31) rfl))) (Or.inr (hw _ (List.mem_of_getElem? (i := 33) rfl))) (by decide) (t := (.object "com/example/kostyashki/kostyashki/tiles/Tile")) (t' := (.object "com/example/kostyashki/kostyashki/tiles/Tile")) (by decide) (by decide)))), ((F_second_a1.other W4 (Or.inr (slot_ne (Or.inr (hw _ (List.mem_of_getElem? (i := 33) rfl))) (Or.inr (hw _ (List.mem_of_getElem? (i := 31) rfl))) (by decide) (t := (.object "com/example/kostyashki/kostyashki/tiles/Tile")) (t' := (.object "com/example/kostyashki/kostyashki/tiles/Tile")) (by decide) (by decide)))).same W5)⟩
theorem d11_0 : decode jdk_22_method_1_code 0 = .ok (.aload_n 0, 1) := by decide +kernel
theorem d11_1 : decode jdk_22_method_1_code 1 = .ok (.invokespecial 1, 3) := by decide +kernel
theorem d11_4 : decode jdk_22_method_1_code 4 = .ok (.return_, 1) := by decide +kernel
theorem pn_4 : plainName "java/util/AbstractCollection" = true := by first | (simp [plainName, overriddenIn]; done) | decide +kernel
theorem ef_11 (m : MethodId) (x0 : Addr) : entryFrame m #[(.ref x0)] 1 = mkF m 0 #[.val (.ref x0)] [] := by first | (simp [entryFrame, mkF, argsToLocals, Value.category]; done) | rfl
def Q11 (Z : State) (a1 : Addr) (h0 : Heap) (n0 : Nat) (v : Option Value) (h : Heap) (L : List Loc) : Prop := v = none ∧ L = [] ∧ h = h0
abbrev R11 : Room := { frames := 1, cells := 0, slots := 0, locals := 12 }
set_option maxRecDepth 65536 in
set_option maxHeartbeats 40000000 in
theorem rm11 (l : Launch) (Z : State) (a0 : Array Value) (hw : ∀ d ∈ tables_1, d.before a0 Z = true) (ws : List Jvm.Cond) (a1 : Addr) (h0 : Heap) (n0 : Nat) (Z0 : n0 ≤ h0.size)  :
    MetFree l (⟨"java/util/AbstractCollection", "<init>", "()V"⟩ : MethodName) (head1 (Jvm.Cond.code (⟨"java/util/AbstractCollection", "<init>", "()V"⟩ : MethodName) jdk_22_method_1_code 1 none :: ws) R11) (fun a U => a = #[(.ref a1)] ∧ Z.Warmed39 U.vm ∧ U.heap = h0) (fun _ _ _ _ _ => True) (fun _ U o U' => ∃ v L, o = .returned v ∧ Q11 Z a1 h0 n0 v U'.heap L ∧ FrameEnd U o U' L R11.cells R11.slots) := by
  refine MetFree.of_bodySF (plainFor_of_name pn_4) hisR ?_
  intro p e s m args below meth c s₁ Bd hml0 hP hK
  obtain ⟨rfl, hZ, hh⟩ := hP
  have hx := Bd.exec
  have hby := Bd.bytes
  have hlk : meth.locks = false := BodyLoose.notSynchronized Bd
  have hml : c.maxLocals = 1 := hml0
  have hown : s.vm.findClass "java/util/AbstractCollection" = some m.cls := findClass_of_methodNamed Bd.named
  have hnm := (name_of_methodNamed Bd.named Bd.method).1
  have X0 : Stand p l e R11 s m #[(.ref a1)] below meth c s₁ [] 0 0 := Stand.of_body Bd
  have e0 : s₁.heap = h0 := by rw [← hh, Bd.state]; rfl
  have N0 := Fr.nil n0
  show own_Goes p e below s (Q11 Z a1 h0 n0) R11.cells R11.slots s₁ (entryFrame m #[(.ref a1)] 1)
  rw [ef_11 m a1]
  refine own_step (f' := (mkF m 1 #[.val (.ref a1)] [(.ref a1)])) (fun _ k => XS.aloadN X0.here hx rfl (hb hby d11_0) rfl rfl k) ?_
  obtain ⟨T1, X1, e1, st1⟩ := initO X0 hx hZ hown (hw _ (List.mem_of_getElem? (i := 68) rfl)) (hw _ (List.mem_of_getElem? (i := 13) rfl)) (hw _ (List.mem_of_getElem? (i := 14) rfl)) e0 (g := (mkF m 1 #[.val (.ref a1)] [(.ref a1)])) rfl (by rw [hml]; rfl) rfl (hb hby d11_1) (by decide) (W := 0) (by show 2 * 0 + _ ≤ _; exact Nat.le_of_eq rfl) (by decide)
  refine own_step (f' := (mkF m 4 #[.val (.ref a1)] [])) st1 ?_
  refine own_out (v := none) X1 hlk (fun _ => rfl) (fun fs hr => X1.returnOut hx Bd.returns (hb hby d11_4) hr) (by decide) (by decide) ?_
  rw [e1]
  exact ⟨rfl, rfl, rfl⟩
theorem d10_0 : decode jdk_47_method_1_code 0 = .ok (.aload_n 0, 1) := by decide +kernel
theorem d10_1 : decode jdk_47_method_1_code 1 = .ok (.invokespecial 1, 3) := by decide +kernel
theorem d10_4 : decode jdk_47_method_1_code 4 = .ok (.return_, 1) := by decide +kernel
theorem pn_5 : plainName "java/util/ImmutableCollections$AbstractImmutableCollection" = true := by first | (simp [plainName, overriddenIn]; done) | decide +kernel
theorem ef_10 (m : MethodId) (x0 : Addr) : entryFrame m #[(.ref x0)] 1 = mkF m 0 #[.val (.ref x0)] [] := by first | (simp [entryFrame, mkF, argsToLocals, Value.category]; done) | rfl
def Q10 (Z : State) (a1 : Addr) (h0 : Heap) (n0 : Nat) (v : Option Value) (h : Heap) (L : List Loc) : Prop := v = none ∧ L = [] ∧ h = h0
abbrev R10 : Room := { frames := 2, cells := 0, slots := 0, locals := 24 }
set_option maxRecDepth 65536 in
set_option maxHeartbeats 40000000 in
theorem rm10 (l : Launch) (Z : State) (a0 : Array Value) (hw : ∀ d ∈ tables_1, d.before a0 Z = true) (ws : List Jvm.Cond) (a1 : Addr) (h0 : Heap) (n0 : Nat) (Z0 : n0 ≤ h0.size)  :
    MetFree l (⟨"java/util/ImmutableCollections$AbstractImmutableCollection", "<init>", "()V"⟩ : MethodName) (head1 (Jvm.Cond.code (⟨"java/util/ImmutableCollections$AbstractImmutableCollection", "<init>", "()V"⟩ : MethodName) jdk_47_method_1_code 1 none :: ws) R10) (fun a U => a = #[(.ref a1)] ∧ Z.Warmed39 U.vm ∧ U.heap = h0) (fun _ _ _ _ _ => True) (fun _ U o U' => ∃ v L, o = .returned v ∧ Q10 Z a1 h0 n0 v U'.heap L ∧ FrameEnd U o U' L R10.cells R10.slots) := by
  refine MetFree.of_bodySF (plainFor_of_name pn_5) hisR ?_
  intro p e s m args below meth c s₁ Bd hml0 hP hK
  obtain ⟨rfl, hZ, hh⟩ := hP
  have hx := Bd.exec
  have hby := Bd.bytes
  have hlk : meth.locks = false := BodyLoose.notSynchronized Bd
  have hml : c.maxLocals = 1 := hml0
  have hown : s.vm.findClass "java/util/ImmutableCollections$AbstractImmutableCollection" = some m.cls := findClass_of_methodNamed Bd.named
  have hnm := (name_of_methodNamed Bd.named Bd.method).1
  have X0 : Stand p l e R10 s m #[(.ref a1)] below meth c s₁ [] 0 0 := Stand.of_body Bd
  have e0 : s₁.heap = h0 := by rw [← hh, Bd.state]; rfl
  have N0 := Fr.nil n0
  show own_Goes p e below s (Q10 Z a1 h0 n0) R10.cells R10.slots s₁ (entryFrame m #[(.ref a1)] 1)
  rw [ef_10 m a1]
  refine own_step (f' := (mkF m 1 #[.val (.ref a1)] [(.ref a1)])) (fun _ k => XS.aloadN X0.here hx rfl (hb hby d10_0) rfl rfl k) ?_
  have Zq1 : n0 ≤ h0.size := Z0
  obtain ⟨_, _, ⟨T1, L1, k1, n1⟩, -, X1, ⟨Lc1, hQ1, l1, y1, z1⟩, st1⟩ := X0.specialBack hx (y := (⟨"java/util/AbstractCollection", "<init>", "()V"⟩ : MethodName)) rfl hown (mvT hZ (hw _ (List.mem_of_getElem? (i := 62) rfl))) (mvT hZ (hw _ (List.mem_of_getElem? (i := 63) rfl))) (mvT hZ (hw _ (List.mem_of_getElem? (i := 67) rfl))) (by decide) (backOf (W := 0) (rm11 l Z a0 hw [] a1 h0 n0 Zq1 ) hZ (hw _ (List.mem_of_getElem? (i := 67) rfl)) (hw _ (List.mem_of_getElem? (i := 66) rfl)) (by decide) (by decide)) (g := (mkF m 1 #[.val (.ref a1)] [(.ref a1)])) rfl (by rw [hml]; rfl) (Steps.refl _) (a := a1) (argsL := []) (rest := []) (lenOf pd_0 rfl) rfl (by show 2 * 0 + _ ≤ _; exact Nat.le_of_eq rfl) (hb hby d10_1) (fun _ _ => ⟨rfl, e0, (by decide : 0 + 0 ≤ _), (by decide : 0 + 0 ≤ _)⟩)
  dsimp only [Pt.U, Pt.locs, Pt.cells, Pt.slots] at X1 l1 y1 z1 st1 hQ1
  subst l1 y1 z1
  obtain ⟨rfl, rfl, e1⟩ := hQ1
  try rw [List.append_nil] at X1
  refine own_jump (f' := (mkF m 4 #[.val (.ref a1)] [])) st1 ?_
  refine own_out (v := none) X1 hlk (fun _ => rfl) (fun fs hr => X1.returnOut hx Bd.returns (hb hby d10_4) hr) (by decide) (by decide) ?_
  rw [e1]
  exact ⟨rfl, rfl, rfl⟩
theorem d9_0 : decode jdk_46_method_1_code 0 = .ok (.aload_n 0, 1) := by decide +kernel
theorem d9_1 : decode jdk_46_method_1_code 1 = .ok (.invokespecial 1, 3) := by decide +kernel
theorem d9_4 : decode jdk_46_method_1_code 4 = .ok (.return_, 1) := by decide +kernel
theorem pn_6 : plainName "java/util/ImmutableCollections$AbstractImmutableList" = true := by first | (simp [plainName, overriddenIn]; done) | decide +kernel
theorem ef_9 (m : MethodId) (x0 : Addr) : entryFrame m #[(.ref x0)] 1 = mkF m 0 #[.val (.ref x0)] [] := by first | (simp [entryFrame, mkF, argsToLocals, Value.category]; done) | rfl
def Q9 (Z : State) (a1 : Addr) (h0 : Heap) (n0 : Nat) (v : Option Value) (h : Heap) (L : List Loc) : Prop := v = none ∧ L = [] ∧ h = h0
abbrev R9 : Room := { frames := 3, cells := 0, slots := 0, locals := 36 }
set_option maxRecDepth 65536 in
set_option maxHeartbeats 40000000 in
theorem rm9 (l : Launch) (Z : State) (a0 : Array Value) (hw : ∀ d ∈ tables_1, d.before a0 Z = true) (ws : List Jvm.Cond) (a1 : Addr) (h0 : Heap) (n0 : Nat) (Z0 : n0 ≤ h0.size)  :
    MetFree l (⟨"java/util/ImmutableCollections$AbstractImmutableList", "<init>", "()V"⟩ : MethodName) (head1 (Jvm.Cond.code (⟨"java/util/ImmutableCollections$AbstractImmutableList", "<init>", "()V"⟩ : MethodName) jdk_46_method_1_code 1 none :: ws) R9) (fun a U => a = #[(.ref a1)] ∧ Z.Warmed39 U.vm ∧ U.heap = h0) (fun _ _ _ _ _ => True) (fun _ U o U' => ∃ v L, o = .returned v ∧ Q9 Z a1 h0 n0 v U'.heap L ∧ FrameEnd U o U' L R9.cells R9.slots) := by
  refine MetFree.of_bodySF (plainFor_of_name pn_6) hisR ?_
  intro p e s m args below meth c s₁ Bd hml0 hP hK
  obtain ⟨rfl, hZ, hh⟩ := hP
  have hx := Bd.exec
  have hby := Bd.bytes
  have hlk : meth.locks = false := BodyLoose.notSynchronized Bd
  have hml : c.maxLocals = 1 := hml0
  have hown : s.vm.findClass "java/util/ImmutableCollections$AbstractImmutableList" = some m.cls := findClass_of_methodNamed Bd.named
  have hnm := (name_of_methodNamed Bd.named Bd.method).1
  have X0 : Stand p l e R9 s m #[(.ref a1)] below meth c s₁ [] 0 0 := Stand.of_body Bd
  have e0 : s₁.heap = h0 := by rw [← hh, Bd.state]; rfl
  have N0 := Fr.nil n0
  show own_Goes p e below s (Q9 Z a1 h0 n0) R9.cells R9.slots s₁ (entryFrame m #[(.ref a1)] 1)
  rw [ef_9 m a1]
  refine own_step (f' := (mkF m 1 #[.val (.ref a1)] [(.ref a1)])) (fun _ k => XS.aloadN X0.here hx rfl (hb hby d9_0) rfl rfl k) ?_
  have Zq1 : n0 ≤ h0.size := Z0
  obtain ⟨_, _, ⟨T1, L1, k1, n1⟩, -, X1, ⟨Lc1, hQ1, l1, y1, z1⟩, st1⟩ := X0.specialBack hx (y := (⟨"java/util/ImmutableCollections$AbstractImmutableCollection", "<init>", "()V"⟩ : MethodName)) rfl hown (mvT hZ (hw _ (List.mem_of_getElem? (i := 56) rfl))) (mvT hZ (hw _ (List.mem_of_getElem? (i := 57) rfl))) (mvT hZ (hw _ (List.mem_of_getElem? (i := 61) rfl))) (by decide) (backOf (W := 0) (rm10 l Z a0 hw [] a1 h0 n0 Zq1 ) hZ (hw _ (List.mem_of_getElem? (i := 61) rfl)) (hw _ (List.mem_of_getElem? (i := 60) rfl)) (by decide) (by decide)) (g := (mkF m 1 #[.val (.ref a1)] [(.ref a1)])) rfl (by rw [hml]; rfl) (Steps.refl _) (a := a1) (argsL := []) (rest := []) (lenOf pd_0 rfl) rfl (by show 2 * 0 + _ ≤ _; exact Nat.le_of_eq rfl) (hb hby d9_1) (fun _ _ => ⟨rfl, e0, (by decide : 0 + 0 ≤ _), (by decide : 0 + 0 ≤ _)⟩)
  dsimp only [Pt.U, Pt.locs, Pt.cells, Pt.slots] at X1 l1 y1 z1 st1 hQ1
  subst l1 y1 z1
  obtain ⟨rfl, rfl, e1⟩ := hQ1
  try rw [List.append_nil] at X1
  refine own_jump (f' := (mkF m 4 #[.val (.ref a1)] [])) st1 ?_
  refine own_out (v := none) X1 hlk (fun _ => rfl) (fun fs hr => X1.returnOut hx Bd.returns (hb hby d9_4) hr) (by decide) (by decide) ?_
  rw [e1]
  exact ⟨rfl, rfl, rfl⟩
theorem d8_0 : decode jdk_44_method_2_code 0 = .ok (.aload_n 0, 1) := by decide +kernel
theorem d8_1 : decode jdk_44_method_2_code 1 = .ok (.invokespecial 1, 3) := by decide +kernel
theorem d8_4 : decode jdk_44_method_2_code 4 = .ok (.aload_n 0, 1) := by decide +kernel
theorem d8_5 : decode jdk_44_method_2_code 5 = .ok (.aload_n 1, 1) := by decide +kernel
theorem d8_6 : decode jdk_44_method_2_code 6 = .ok (.invokestatic 7, 3) := by decide +kernel
theorem d8_9 : decode jdk_44_method_2_code 9 = .ok (.putfield 13, 3) := by decide +kernel
theorem d8_12 : decode jdk_44_method_2_code 12 = .ok (.aload_n 0, 1) := by decide +kernel
theorem d8_13 : decode jdk_44_method_2_code 13 = .ok (.aload_n 2, 1) := by decide +kernel
theorem d8_14 : decode jdk_44_method_2_code 14 = .ok (.invokestatic 7, 3) := by decide +kernel
theorem d8_17 : decode jdk_44_method_2_code 17 = .ok (.putfield 24, 3) := by decide +kernel
theorem d8_20 : decode jdk_44_method_2_code 20 = .ok (.return_, 1) := by decide +kernel
theorem pn_7 : plainName "java/util/ImmutableCollections$List12" = true := by first | (simp [plainName, overriddenIn]; done) | decide +kernel
theorem ef_8 (m : MethodId) (x0 : Addr) (x1 : Addr) (x2 : Addr) : entryFrame m #[(.ref x0), (.ref x1), (.ref x2)] 3 = mkF m 0 #[.val (.ref x0), .val (.ref x1), .val (.ref x2)] [] := by first | (simp [entryFrame, mkF, argsToLocals, Value.category]; done) | rfl
def Q8 (Z : State) (a1 : Addr) (a2 : Addr) (a3 : Addr) (u1 : Value) (u2 : Value) (h0 : Heap) (n0 : Nat) (v : Option Value) (h : Heap) (L : List Loc) : Prop := v = none ∧ Fr n0 L ∧ Keep h0 h [a1] ∧ Exa Z h a1 "java/util/ImmutableCollections$List12" ∧ Fld Z h a1 "java/util/ImmutableCollections$List12" "e0" "Ljava/lang/Object;" (.ref a2) ∧ Fld Z h a1 "java/util/ImmutableCollections$List12" "e1" "Ljava/lang/Object;" (.ref a3)
abbrev R8 : Room := { frames := 4, cells := 0, slots := 0, locals := 48 }
set_option maxRecDepth 65536 in
set_option maxHeartbeats 40000000 in
theorem rm8 (l : Launch) (Z : State) (a0 : Array Value) (hw : ∀ d ∈ tables_1, d.before a0 Z = true) (ws : List Jvm.Cond) (a1 : Addr) (a2 : Addr) (a3 : Addr) (u1 : Value) (u2 : Value) (h0 : Heap) (n0 : Nat) (Z0 : n0 ≤ h0.size) (E_a1 : Exa Z h0 a1 "java/util/ImmutableCollections$List12") (F_e0_a1 : Fld Z h0 a1 "java/util/ImmutableCollections$List12" "e0" "Ljava/lang/Object;" u1) (F_e1_a1 : Fld Z h0 a1 "java/util/ImmutableCollections$List12" "e1" "Ljava/lang/Object;" u2) (g_a1 : n0 ≤ a1) :
    MetFree l (⟨"java/util/ImmutableCollections$List12", "<init>", "(Ljava/lang/Object;Ljava/lang/Object;)V"⟩ : MethodName) (head1 (Jvm.Cond.code (⟨"java/util/ImmutableCollections$List12", "<init>", "(Ljava/lang/Object;Ljava/lang/Object;)V"⟩ : MethodName) jdk_44_method_2_code 3 none :: ws) R8) (fun a U => a = #[(.ref a1), (.ref a2), (.ref a3)] ∧ Z.Warmed39 U.vm ∧ U.heap = h0) (fun _ _ _ _ _ => True) (fun _ U o U' => ∃ v L, o = .returned v ∧ Q8 Z a1 a2 a3 u1 u2 h0 n0 v U'.heap L ∧ FrameEnd U o U' L R8.cells R8.slots) := by
  refine MetFree.of_bodySF (plainFor_of_name pn_7) hisR ?_
  intro p e s m args below meth c s₁ Bd hml0 hP hK
  obtain ⟨rfl, hZ, hh⟩ := hP
  have hx := Bd.exec
  have hby := Bd.bytes
  have hlk : meth.locks = false := BodyLoose.notSynchronized Bd
  have hml : c.maxLocals = 3 := hml0
  have hown : s.vm.findClass "java/util/ImmutableCollections$List12" = some m.cls := findClass_of_methodNamed Bd.named
  have hnm := (name_of_methodNamed Bd.named Bd.method).1
  have X0 : Stand p l e R8 s m #[(.ref a1), (.ref a2), (.ref a3)] below meth c s₁ [] 0 0 := Stand.of_body Bd
  have e0 : s₁.heap = h0 := by rw [← hh, Bd.state]; rfl
  have N0 := Fr.nil n0
  show own_Goes p e below s (Q8 Z a1 a2 a3 u1 u2 h0 n0) R8.cells R8.slots s₁ (entryFrame m #[(.ref a1), (.ref a2), (.ref a3)] 3)
  rw [ef_8 m a1 a2 a3]
  refine own_step (f' := (mkF m 1 #[.val (.ref a1), .val (.ref a2), .val (.ref a3)] [(.ref a1)])) (fun _ k => XS.aloadN X0.here hx rfl (hb hby d8_0) rfl rfl k) ?_
  have Zq1 : n0 ≤ h0.size := Z0
  obtain ⟨_, _, ⟨T1, L1, k1, n1⟩, -, X1, ⟨Lc1, hQ1, l1, y1, z1⟩, st1⟩ := X0.specialBack hx (y := (⟨"java/util/ImmutableCollections$AbstractImmutableList", "<init>", "()V"⟩ : MethodName)) rfl hown (mvT hZ (hw _ (List.mem_of_getElem? (i := 50) rfl))) (mvT hZ (hw _ (List.mem_of_getElem? (i := 51) rfl))) (mvT hZ (hw _ (List.mem_of_getElem? (i := 55) rfl))) (by decide) (backOf (W := 0) (rm9 l Z a0 hw [] a1 h0 n0 Zq1 ) hZ (hw _ (List.mem_of_getElem? (i := 55) rfl)) (hw _ (List.mem_of_getElem? (i := 54) rfl)) (by decide) (by decide)) (g := (mkF m 1 #[.val (.ref a1), .val (.ref a2), .val (.ref a3)] [(.ref a1)])) rfl (by rw [hml]; rfl) (Steps.refl _) (a := a1) (argsL := []) (rest := []) (lenOf pd_0 rfl) rfl (by show 2 * 0 + _ ≤ _; exact Nat.le_of_eq rfl) (hb hby d8_1) (fun _ _ => ⟨rfl, e0, (by decide : 0 + 0 ≤ _), (by decide : 0 + 0 ≤ _)⟩)
  dsimp only [Pt.U, Pt.locs, Pt.cells, Pt.slots] at X1 l1 y1 z1 st1 hQ1
  subst l1 y1 z1
  obtain ⟨rfl, rfl, e1⟩ := hQ1
  try rw [List.append_nil] at X1
  refine own_jump (f' := (mkF m 4 #[.val (.ref a1), .val (.ref a2), .val (.ref a3)] [])) st1 ?_
  refine own_step (f' := (mkF m 5 #[.val (.ref a1), .val (.ref a2), .val (.ref a3)] [(.ref a1)])) (fun _ k => XS.aloadN X1.here hx rfl (hb hby d8_4) rfl rfl k) ?_
  refine own_step (f' := (mkF m 6 #[.val (.ref a1), .val (.ref a2), .val (.ref a3)] [(.ref a2), (.ref a1)])) (fun _ k => XS.aloadN X1.here hx rfl (hb hby d8_5) rfl rfl k) ?_
  have Zq2 : n0 ≤ h0.size := Z0
  obtain ⟨_, _, ⟨T2, L2, k2, n2⟩, -, X2, ⟨Lc2, hQ2, l2, y2, z2⟩, st2⟩ := Jvm.LawKit.callS X1 hx (y := (⟨"java/util/Objects", "requireNonNull", "(Ljava/lang/Object;)Ljava/lang/Object;"⟩ : MethodName)) hown (mvT hZ (hw _ (List.mem_of_getElem? (i := 69) rfl))) (mvT hZ (hw _ (List.mem_of_getElem? (i := 27) rfl))) (mvT hZ (hw _ (List.mem_of_getElem? (i := 28) rfl))) (mvT hZ (hw _ (List.mem_of_getElem? (i := 29) rfl))) (by decide) (backOf (W := 1) (rm5 l Z a0 hw [] a2 h0 n0 Zq2 ) hZ (hw _ (List.mem_of_getElem? (i := 29) rfl)) (hw _ (List.mem_of_getElem? (i := 28) rfl)) (by decide) (by decide)) (g := (mkF m 6 #[.val (.ref a1), .val (.ref a2), .val (.ref a3)] [(.ref a2), (.ref a1)])) rfl (by rw [hml]; rfl) (argsL := [(.ref a2)]) (rest := [(.ref a1)]) (lenOf pd_1 rfl) rfl (by show 2 * 0 + _ ≤ _; exact Nat.le_of_eq rfl) (hb hby d8_6) (fun _ _ => ⟨rfl, e1, (by decide : 0 + 0 ≤ _), (by decide : 0 + 0 ≤ _)⟩)
  dsimp only [Pt.U, Pt.locs, Pt.cells, Pt.slots] at X2 l2 y2 z2 st2 hQ2
  subst l2 y2 z2
  obtain ⟨rfl, rfl, e2⟩ := hQ2
  try rw [List.append_nil] at X2
  refine own_step (f' := (mkF m 9 #[.val (.ref a1), .val (.ref a2), .val (.ref a3)] [(.ref a2), (.ref a1)])) st2 ?_
  obtain ⟨T3, h3, X3, e3, W3, st3⟩ := putF X2 hx hZ hown (host := "") (Or.inl (hw _ (List.mem_of_getElem? (i := 70) rfl))) Via.refl e2 F_e0_a1 E_a1 (Or.inr ⟨(hw _ (List.mem_of_getElem? (i := 71) rfl)), rfl, hnm⟩) (hw _ (List.mem_of_getElem? (i := 44) rfl)) (ty := (.object "java/lang/Object")) (by decide) rfl rfl (g := (mkF m 9 #[.val (.ref a1), .val (.ref a2), .val (.ref a3)] [(.ref a2), (.ref a1)])) rfl rfl (hb hby d8_9)
  obtain ⟨Lo3, X3, N3⟩ : ∃ K, Stand p l e R8 s m #[(.ref a1), (.ref a2), (.ref a3)] below meth c T3 K 0 0 ∧ Fr n0 K := ⟨_, X3, (Fr.snoc X3 N0 g_a1)⟩
  refine own_step (f' := (mkF m 12 #[.val (.ref a1), .val (.ref a2), .val (.ref a3)] [])) st3 ?_
  refine own_step (f' := (mkF m 13 #[.val (.ref a1), .val (.ref a2), .val (.ref a3)] [(.ref a1)])) (fun _ k => XS.aloadN X3.here hx rfl (hb hby d8_12) rfl rfl k) ?_
  refine own_step (f' := (mkF m 14 #[.val (.ref a1), .val (.ref a2), .val (.ref a3)] [(.ref a3), (.ref a1)])) (fun _ k => XS.aloadN X3.here hx rfl (hb hby d8_13) rfl rfl k) ?_
  have Zq4 : n0 ≤ h3.size := (Nat.le_trans Z0 (Nat.le_of_eq W3.size.symm))
  obtain ⟨_, _, ⟨T4, L4, k4, n4⟩, -, X4, ⟨Lc4, hQ4, l4, y4, z4⟩, st4⟩ := Jvm.LawKit.callS X3 hx (y := (⟨"java/util/Objects", "requireNonNull", "(Ljava/lang/Object;)Ljava/lang/Object;"⟩ : MethodName)) hown (mvT hZ (hw _ (List.mem_of_getElem? (i := 69) rfl))) (mvT hZ (hw _ (List.mem_of_getElem? (i := 27) rfl))) (mvT hZ (hw _ (List.mem_of_getElem? (i := 28) rfl))) (mvT hZ (hw _ (List.mem_of_getElem? (i := 29) rfl))) (by decide) (backOf (W := 1) (rm5 l Z a0 hw [] a3 h3 n0 Zq4 ) hZ (hw _ (List.mem_of_getElem? (i := 29) rfl)) (hw _ (List.mem_of_getElem? (i := 28) rfl)) (by decide) (by decide)) (g := (mkF m 14 #[.val (.ref a1), .val (.ref a2), .val (.ref a3)] [(.ref a3), (.ref a1)])) rfl (by rw [hml]; rfl) (argsL := [(.ref a3)]) (rest := [(.ref a1)]) (lenOf pd_1 rfl) rfl (by show 2 * 0 + _ ≤ _; exact Nat.le_of_eq rfl) (hb hby d8_14) (fun _ _ => ⟨rfl, e3, (by decide : 0 + 0 ≤ _), (by decide : 0 + 0 ≤ _)⟩)
  dsimp only [Pt.U, Pt.locs, Pt.cells, Pt.slots] at X4 l4 y4 z4 st4 hQ4
  subst l4 y4 z4
  obtain ⟨rfl, rfl, e4⟩ := hQ4
  try rw [List.append_nil] at X4
  refine own_step (f' := (mkF m 17 #[.val (.ref a1), .val (.ref a2), .val (.ref a3)] [(.ref a3), (.ref a1)])) st4 ?_
  obtain ⟨T5, h5, X5, e5, W5, st5⟩ := putF X4 hx hZ hown (host := "") (Or.inl (hw _ (List.mem_of_getElem? (i := 72) rfl))) Via.refl e4 (F_e1_a1.other W3 (Or.inr (slot_ne (Or.inr (hw _ (List.mem_of_getElem? (i := 73) rfl))) (Or.inr (hw _ (List.mem_of_getElem? (i := 71) rfl))) (by decide) (t := (.object "java/lang/Object")) (t' := (.object "java/lang/Object")) (by decide) (by decide)))) (E_a1.wr W3) (Or.inr ⟨(hw _ (List.mem_of_getElem? (i := 73) rfl)), rfl, hnm⟩) (hw _ (List.mem_of_getElem? (i := 44) rfl)) (ty := (.object "java/lang/Object")) (by decide) rfl rfl (g := (mkF m 17 #[.val (.ref a1), .val (.ref a2), .val (.ref a3)] [(.ref a3), (.ref a1)])) rfl rfl (hb hby d8_17)
  obtain ⟨Lo5, X5, N5⟩ : ∃ K, Stand p l e R8 s m #[(.ref a1), (.ref a2), (.ref a3)] below meth c T5 K 0 0 ∧ Fr n0 K := ⟨_, X5, (Fr.snoc X5 N3 g_a1)⟩
  refine own_step (f' := (mkF m 20 #[.val (.ref a1), .val (.ref a2), .val (.ref a3)] [])) st5 ?_
  refine own_out (v := none) X5 hlk (fun _ => rfl) (fun fs hr => X5.returnOut hx Bd.returns (hb hby d8_20) hr) (by decide) (by decide) ?_
  rw [e5]
  exact ⟨rfl, N5, (((Keep.refl h0 [a1]).wr W3 (Or.inl (List.mem_of_getElem? (i := 0) rfl))).wr W5 (Or.inl (List.mem_of_getElem? (i := 0) rfl))), ((E_a1.wr W3).wr W5), ((F_e0_a1.same W3).other W5 (Or.inr (slot_ne (Or.inr (hw _ (List.mem_of_getElem? (i := 71) rfl))) (Or.inr (hw _ (List.mem_of_getElem? (i := 73) rfl))) (by decide) (t := (.object "java/lang/Object")) (t' := (.object "java/lang/Object")) (by decide) (by decide)))), ((F_e1_a1.other W3 (Or.inr (slot_ne (Or.inr (hw _ (List.mem_of_getElem? (i := 73) rfl))) (Or.inr (hw _ (List.mem_of_getElem? (i := 71) rfl))) (by decide) (t := (.object "java/lang/Object")) (t' := (.object "java/lang/Object")) (by decide) (by decide)))).same W5)⟩
theorem pd_2 : parseMethodDescriptor "(Ljava/lang/Object;Ljava/lang/Object;)V" = some ⟨[(.object "java/lang/Object"), (.object "java/lang/Object")], none⟩ := by decide +kernel
theorem d7_0 : decode jdk_40_method_38_code 0 = .ok (.new 96, 3) := by decide +kernel
theorem d7_3 : decode jdk_40_method_38_code 3 = .ok (.dup, 1) := by decide +kernel
theorem d7_4 : decode jdk_40_method_38_code 4 = .ok (.aload_n 0, 1) := by decide +kernel
theorem d7_5 : decode jdk_40_method_38_code 5 = .ok (.aload_n 1, 1) := by decide +kernel
theorem d7_6 : decode jdk_40_method_38_code 6 = .ok (.invokespecial 100, 3) := by decide +kernel
theorem d7_9 : decode jdk_40_method_38_code 9 = .ok (.areturn, 1) := by decide +kernel
theorem pn_8 : plainName "java/util/List" = true := by first | (simp [plainName, overriddenIn]; done) | decide +kernel
theorem ef_7 (m : MethodId) (x0 : Addr) (x1 : Addr) : entryFrame m #[(.ref x0), (.ref x1)] 2 = mkF m 0 #[.val (.ref x0), .val (.ref x1)] [] := by first | (simp [entryFrame, mkF, argsToLocals, Value.category]; done) | rfl
def Q7 (Z : State) (a1 : Addr) (a2 : Addr) (h0 : Heap) (n0 : Nat) (v : Option Value) (h : Heap) (L : List Loc) : Prop := ∃ b : Addr, v = some (.ref b) ∧ n0 ≤ b ∧ h0.size ≤ b ∧ Fr n0 L ∧ Keep h0 h [] ∧ Exa Z h b "java/util/ImmutableCollections$List12" ∧ Fld Z h b "java/util/ImmutableCollections$List12" "e0" "Ljava/lang/Object;" (.ref a1) ∧ Fld Z h b "java/util/ImmutableCollections$List12" "e1" "Ljava/lang/Object;" (.ref a2)
abbrev R7 : Room := { frames := 5, cells := 1, slots := 2, locals := 63 }
set_option maxRecDepth 65536 in
set_option maxHeartbeats 40000000 in
theorem rm7 (l : Launch) (Z : State) (a0 : Array Value) (hw : ∀ d ∈ tables_1, d.before a0 Z = true) (ws : List Jvm.Cond) (a1 : Addr) (a2 : Addr) (h0 : Heap) (n0 : Nat) (Z0 : n0 ≤ h0.size)  :
    MetFree l (⟨"java/util/List", "of", "(Ljava/lang/Object;Ljava/lang/Object;)Ljava/util/List;"⟩ : MethodName) (head1 (Jvm.Cond.code (⟨"java/util/List", "of", "(Ljava/lang/Object;Ljava/lang/Object;)Ljava/util/List;"⟩ : MethodName) jdk_40_method_38_code 2 (some (.object "java/util/List")) :: ws) R7) (fun a U => a = #[(.ref a1), (.ref a2)] ∧ Z.Warmed39 U.vm ∧ U.heap = h0) (fun _ _ _ _ _ => True) (fun _ U o U' => ∃ v L, o = .returned v ∧ Q7 Z a1 a2 h0 n0 v U'.heap L ∧ FrameEnd U o U' L R7.cells R7.slots) := by
  refine MetFree.of_bodySF (plainFor_of_name pn_8) hisR ?_
  intro p e s m args below meth c s₁ Bd hml0 hP hK
  obtain ⟨rfl, hZ, hh⟩ := hP
  have hx := Bd.exec
  have hby := Bd.bytes
  have hlk : meth.locks = false := BodyLoose.notSynchronized Bd
  have hml : c.maxLocals = 2 := hml0
  have hown : s.vm.findClass "java/util/List" = some m.cls := findClass_of_methodNamed Bd.named
  have hnm := (name_of_methodNamed Bd.named Bd.method).1
  have X0 : Stand p l e R7 s m #[(.ref a1), (.ref a2)] below meth c s₁ [] 0 0 := Stand.of_body Bd
  have e0 : s₁.heap = h0 := by rw [← hh, Bd.state]; rfl
  have N0 := Fr.nil n0
  show own_Goes p e below s (Q7 Z a1 a2 h0 n0) R7.cells R7.slots s₁ (entryFrame m #[(.ref a1), (.ref a2)] 2)
  rw [ef_7 m a1 a2]
  obtain ⟨T1, h1, X1, e1, E1, A1, D1, -, st1⟩ := newO X0 hx hZ hown (hw _ (List.mem_of_getElem? (i := 43) rfl)) (hw _ (List.mem_of_getElem? (i := 44) rfl)) (hw _ (List.mem_of_getElem? (i := 45) rfl)) e0 (g := (mkF m 0 #[.val (.ref a1), .val (.ref a2)] [])) rfl (hb hby d7_0) (by decide) (by decide)
  obtain ⟨b1, g1⟩ : ∃ z, z = h0.size := ⟨_, rfl⟩
  rw [← g1] at A1 D1 st1
  have g_b1 : n0 ≤ b1 := Nat.le_trans Z0 (Nat.le_of_eq g1.symm)
  have sz_b1 : h0.size ≤ b1 := Nat.le_trans (Keep.refl h0 []).1 (Nat.le_of_eq g1.symm)
  have F_e0_b1 : Fld Z h1 b1 "java/util/ImmutableCollections$List12" "e0" "Ljava/lang/Object;" .null := D1 (Or.inr (hw _ (List.mem_of_getElem? (i := 71) rfl))) (ty := (.object "java/lang/Object")) (by decide)
  have F_e1_b1 : Fld Z h1 b1 "java/util/ImmutableCollections$List12" "e1" "Ljava/lang/Object;" .null := D1 (Or.inr (hw _ (List.mem_of_getElem? (i := 73) rfl))) (ty := (.object "java/lang/Object")) (by decide)
  refine own_step (f' := (mkF m 3 #[.val (.ref a1), .val (.ref a2)] [(.ref b1)])) st1 ?_
  refine own_step (f' := (mkF m 4 #[.val (.ref a1), .val (.ref a2)] [(.ref b1), (.ref b1)])) (fun _ k => XS.dup X1.here hx rfl (hb hby d7_3) rfl rfl k) ?_
  refine own_step (f' := (mkF m 5 #[.val (.ref a1), .val (.ref a2)] [(.ref a1), (.ref b1), (.ref b1)])) (fun _ k => XS.aloadN X1.here hx rfl (hb hby d7_4) rfl rfl k) ?_
  refine own_step (f' := (mkF m 6 #[.val (.ref a1), .val (.ref a2)] [(.ref a2), (.ref a1), (.ref b1), (.ref b1)])) (fun _ k => XS.aloadN X1.here hx rfl (hb hby d7_5) rfl rfl k) ?_
  have Zq2 : n0 ≤ h1.size := (Nat.le_trans Z0 E1.1)
  obtain ⟨_, _, ⟨T2, L2, k2, n2⟩, -, X2, ⟨Lc2, hQ2, l2, y2, z2⟩, st2⟩ := X1.specialBack hx (y := (⟨"java/util/ImmutableCollections$List12", "<init>", "(Ljava/lang/Object;Ljava/lang/Object;)V"⟩ : MethodName)) rfl hown (mvT hZ (hw _ (List.mem_of_getElem? (i := 46) rfl))) (mvT hZ (hw _ (List.mem_of_getElem? (i := 47) rfl))) (mvT hZ (hw _ (List.mem_of_getElem? (i := 49) rfl))) (by decide) (backOf (W := 1) (rm8 l Z a0 hw [] b1 a1 a2 .null .null h1 n0 Zq2 A1 F_e0_b1 F_e1_b1 g_b1) hZ (hw _ (List.mem_of_getElem? (i := 49) rfl)) (hw _ (List.mem_of_getElem? (i := 45) rfl)) (by decide) (by decide)) (g := (mkF m 6 #[.val (.ref a1), .val (.ref a2)] [(.ref a2), (.ref a1), (.ref b1), (.ref b1)])) rfl (by rw [hml]; rfl) (Steps.refl _) (a := b1) (argsL := [(.ref a1), (.ref a2)]) (rest := [(.ref b1)]) (lenOf pd_2 rfl) rfl (by show 2 * 0 + _ ≤ _; exact Nat.le_of_eq rfl) (hb hby d7_6) (fun _ _ => ⟨rfl, e1, (by decide : 1 + 0 ≤ _), (by decide : 2 + 0 ≤ _)⟩)
  dsimp only [Pt.U, Pt.locs, Pt.cells, Pt.slots] at X2 l2 y2 z2 st2 hQ2
  subst l2 y2 z2
  obtain ⟨rfl, Nq2, K2, P2_0, P2_1, P2_2⟩ := hQ2
  obtain ⟨Lo2, X2, N2⟩ : ∃ K, Stand p l e R7 s m #[(.ref a1), (.ref a2)] below meth c T2 K 1 2 ∧ Fr n0 K := ⟨_, X2, (Fr.app N0 Nq2)⟩
  refine own_jump (f' := (mkF m 9 #[.val (.ref a1), .val (.ref a2)] [(.ref b1)])) st2 ?_
  refine own_out (v := some (.ref b1)) X2 hlk (fun h => by rw [Bd.returns] at h; cases h) (fun fs hr => retOut X2 hx Bd.returns rfl (Or.inr (Or.inr (Or.inr (Or.inr ⟨rfl, rfl, rfl⟩)))) (hb hby d7_9) hr) (by decide) (by decide) ?_
  exact ⟨b1, rfl, g_b1, sz_b1, N2, (((Keep.refl h0 []).ext E1).trans K2 (allS (Or.inr sz_b1) all0)), P2_0, P2_1, P2_2⟩
theorem pd_3 : parseMethodDescriptor "(Ljava/lang/Object;Ljava/lang/Object;)Ljava/util/List;" = some ⟨[(.object "java/lang/Object"), (.object "java/lang/Object")], some (.object "java/util/List")⟩ := by decide +kernel
theorem d6_0 : decode prog_44_method_2_code 0 = .ok (.aload_n 0, 1) := by decide +kernel
theorem d6_1 : decode prog_44_method_2_code 1 = .ok (.getfield 13, 3) := by decide +kernel
theorem d6_4 : decode prog_44_method_2_code 4 = .ok (.aload_n 0, 1) := by decide +kernel
theorem d6_5 : decode prog_44_method_2_code 5 = .ok (.getfield 19, 3) := by decide +kernel
theorem d6_8 : decode prog_44_method_2_code 8 = .ok (.invokestatic 22, 3) := by decide +kernel
theorem d6_11 : decode prog_44_method_2_code 11 = .ok (.areturn, 1) := by decide +kernel
theorem ef_6 (m : MethodId) (x0 : Addr) : entryFrame m #[(.ref x0)] 1 = mkF m 0 #[.val (.ref x0)] [] := by first | (simp [entryFrame, mkF, argsToLocals, Value.category]; done) | rfl
def Q6 (Z : State) (a1 : Addr) (a2 : Addr) (a3 : Addr) (h0 : Heap) (n0 : Nat) (v : Option Value) (h : Heap) (L : List Loc) : Prop := ∃ b : Addr, v = some (.ref b) ∧ n0 ≤ b ∧ h0.size ≤ b ∧ Fr n0 L ∧ Keep h0 h [] ∧ Exa Z h b "java/util/ImmutableCollections$List12" ∧ Fld Z h b "java/util/ImmutableCollections$List12" "e0" "Ljava/lang/Object;" (.ref a2) ∧ Fld Z h b "java/util/ImmutableCollections$List12" "e1" "Ljava/lang/Object;" (.ref a3)
abbrev R6 : Room := { frames := 6, cells := 1, slots := 2, locals := 76 }
set_option maxRecDepth 65536 in
set_option maxHeartbeats 40000000 in
theorem rm6 (l : Launch) (Z : State) (a0 : Array Value) (hw : ∀ d ∈ tables_1, d.before a0 Z = true) (ws : List Jvm.Cond) (a1 : Addr) (a2 : Addr) (a3 : Addr) (h0 : Heap) (n0 : Nat) (Z0 : n0 ≤ h0.size) (F_first_a1 : Fld Z h0 a1 "com/example/kostyashki/kostyashki/round/BothEnds" "first" "Lcom/example/kostyashki/kostyashki/tiles/Tile;" (.ref a2)) (F_second_a1 : Fld Z h0 a1 "com/example/kostyashki/kostyashki/round/BothEnds" "second" "Lcom/example/kostyashki/kostyashki/tiles/Tile;" (.ref a3)) :
    MetFree l (⟨"com/example/kostyashki/kostyashki/round/BothEnds", "tiles", "()Ljava/util/List;"⟩ : MethodName) (head1 (Jvm.Cond.code (⟨"com/example/kostyashki/kostyashki/round/BothEnds", "tiles", "()Ljava/util/List;"⟩ : MethodName) prog_44_method_2_code 1 (some (.object "java/util/List")) :: ws) R6) (fun a U => a = #[(.ref a1)] ∧ Z.Warmed39 U.vm ∧ U.heap = h0) (fun _ _ _ _ _ => True) (fun _ U o U' => ∃ v L, o = .returned v ∧ Q6 Z a1 a2 a3 h0 n0 v U'.heap L ∧ FrameEnd U o U' L R6.cells R6.slots) := by
  refine MetFree.of_bodySF (plainFor_of_name pn_3) hisR ?_
  intro p e s m args below meth c s₁ Bd hml0 hP hK
  obtain ⟨rfl, hZ, hh⟩ := hP
  have hx := Bd.exec
  have hby := Bd.bytes
  have hlk : meth.locks = false := BodyLoose.notSynchronized Bd
  have hml : c.maxLocals = 1 := hml0
  have hown : s.vm.findClass "com/example/kostyashki/kostyashki/round/BothEnds" = some m.cls := findClass_of_methodNamed Bd.named
  have hnm := (name_of_methodNamed Bd.named Bd.method).1
  have X0 : Stand p l e R6 s m #[(.ref a1)] below meth c s₁ [] 0 0 := Stand.of_body Bd
  have e0 : s₁.heap = h0 := by rw [← hh, Bd.state]; rfl
  have N0 := Fr.nil n0
  show own_Goes p e below s (Q6 Z a1 a2 a3 h0 n0) R6.cells R6.slots s₁ (entryFrame m #[(.ref a1)] 1)
  rw [ef_6 m a1]
  refine own_step (f' := (mkF m 1 #[.val (.ref a1)] [(.ref a1)])) (fun _ k => XS.aloadN X0.here hx rfl (hb hby d6_0) rfl rfl k) ?_
  obtain ⟨T1, X1, e1, st1⟩ := getF X0 hx hZ hown (host := "") (Or.inl (hw _ (List.mem_of_getElem? (i := 30) rfl))) Via.refl e0 F_first_a1 (g := (mkF m 1 #[.val (.ref a1)] [(.ref a1)])) rfl rfl (hb hby d6_1)
  refine own_step (f' := (mkF m 4 #[.val (.ref a1)] [(.ref a2)])) st1 ?_
  refine own_step (f' := (mkF m 5 #[.val (.ref a1)] [(.ref a1), (.ref a2)])) (fun _ k => XS.aloadN X1.here hx rfl (hb hby d6_4) rfl rfl k) ?_
  obtain ⟨T2, X2, e2, st2⟩ := getF X1 hx hZ hown (host := "") (Or.inl (hw _ (List.mem_of_getElem? (i := 32) rfl))) Via.refl e1 F_second_a1 (g := (mkF m 5 #[.val (.ref a1)] [(.ref a1), (.ref a2)])) rfl rfl (hb hby d6_5)
  refine own_step (f' := (mkF m 8 #[.val (.ref a1)] [(.ref a3), (.ref a2)])) st2 ?_
  have Zq3 : n0 ≤ h0.size := Z0
  obtain ⟨_, _, ⟨T3, L3, k3, n3⟩, -, X3, ⟨Lc3, hQ3, l3, y3, z3⟩, st3⟩ := Jvm.LawKit.callS X2 hx (y := (⟨"java/util/List", "of", "(Ljava/lang/Object;Ljava/lang/Object;)Ljava/util/List;"⟩ : MethodName)) hown (mvT hZ (hw _ (List.mem_of_getElem? (i := 39) rfl))) (mvT hZ (hw _ (List.mem_of_getElem? (i := 40) rfl))) (mvT hZ (hw _ (List.mem_of_getElem? (i := 41) rfl))) (mvT hZ (hw _ (List.mem_of_getElem? (i := 42) rfl))) (by decide) (backOf (W := 0) (rm7 l Z a0 hw [] a2 a3 h0 n0 Zq3 ) hZ (hw _ (List.mem_of_getElem? (i := 42) rfl)) (hw _ (List.mem_of_getElem? (i := 41) rfl)) (by decide) (by decide)) (g := (mkF m 8 #[.val (.ref a1)] [(.ref a3), (.ref a2)])) rfl (by rw [hml]; rfl) (argsL := [(.ref a2), (.ref a3)]) (rest := []) (lenOf pd_3 rfl) rfl (by show 2 * 0 + _ ≤ _; exact Nat.le_of_eq rfl) (hb hby d6_8) (fun _ _ => ⟨rfl, e2, (by decide : 0 + 1 ≤ _), (by decide : 0 + 2 ≤ _)⟩)
  dsimp only [Pt.U, Pt.locs, Pt.cells, Pt.slots] at X3 l3 y3 z3 st3 hQ3
  subst l3 y3 z3
  obtain ⟨b3, rfl, g_b3, sq_b3, Nq3, K3, P3_0, P3_1, P3_2⟩ := hQ3
  obtain ⟨Lo3, X3, N3⟩ : ∃ K, Stand p l e R6 s m #[(.ref a1)] below meth c T3 K 1 2 ∧ Fr n0 K := ⟨_, X3, (Fr.app N0 Nq3)⟩
  have ne_a1_b3 : a1 ≠ b3 := Nat.ne_of_lt (Nat.lt_of_lt_of_le F_first_a1.lt sq_b3)
  have sz_b3 : h0.size ≤ b3 := Nat.le_trans (Keep.refl h0 []).1 sq_b3
  refine own_step (f' := (mkF m 11 #[.val (.ref a1)] [(.ref b3)])) st3 ?_
  refine own_out (v := some (.ref b3)) X3 hlk (fun h => by rw [Bd.returns] at h; cases h) (fun fs hr => retOut X3 hx Bd.returns rfl (Or.inr (Or.inr (Or.inr (Or.inr ⟨rfl, rfl, rfl⟩)))) (hb hby d6_11) hr) (by decide) (by decide) ?_
  exact ⟨b3, rfl, g_b3, sz_b3, N3, ((Keep.refl h0 []).trans K3 all0), P3_0, P3_1, P3_2⟩
theorem d12_0 : decode jdk_44_method_3_code 0 = .ok (.aload_n 0, 1) := by decide +kernel
theorem d12_1 : decode jdk_44_method_3_code 1 = .ok (.getfield 24, 3) := by decide +kernel
theorem d12_4 : decode jdk_44_method_3_code 4 = .ok (.getstatic 19, 3) := by decide +kernel
theorem d12_7 : decode jdk_44_method_3_code 7 = .ok (.if_acmp .eq 7, 3) := by decide +kernel
theorem d12_10 : decode jdk_44_method_3_code 10 = .ok (.iconst 2, 1) := by decide +kernel
theorem d12_11 : decode jdk_44_method_3_code 11 = .ok (.goto 4, 3) := by decide +kernel
theorem d12_15 : decode jdk_44_method_3_code 15 = .ok (.ireturn, 1) := by decide +kernel
theorem ef_12 (m : MethodId) (x0 : Addr) : entryFrame m #[(.ref x0)] 1 = mkF m 0 #[.val (.ref x0)] [] := by first | (simp [entryFrame, mkF, argsToLocals, Value.category]; done) | rfl
def Q12 (Z : State) (a1 : Addr) (a3 : Addr) (w1 : Addr) (h0 : Heap) (n0 : Nat) (v : Option Value) (h : Heap) (L : List Loc) : Prop := v = some (.int (2 : Int32)) ∧ L = [] ∧ h = h0
abbrev R12 : Room := { frames := 0, cells := 0, slots := 0, locals := 0 }
set_option maxRecDepth 65536 in
set_option maxHeartbeats 40000000 in
theorem rm12 (l : Launch) (Z : State) (a0 : Array Value) (hw : ∀ d ∈ tables_1, d.before a0 Z = true) (ws : List Jvm.Cond) (a1 : Addr) (a3 : Addr) (w1 : Addr) (h0 : Heap) (n0 : Nat) (Z0 : n0 ≤ h0.size) (F_e1_a1 : Fld Z h0 a1 "java/util/ImmutableCollections$List12" "e1" "Ljava/lang/Object;" (.ref a3)) (S_EMPTY : Sta Z h0 "java/util/ImmutableCollections" "EMPTY" "Ljava/lang/Object;" (.ref w1)) (ne_a3_w1 : a3 ≠ w1) :
    MetFree l (⟨"java/util/ImmutableCollections$List12", "size", "()I"⟩ : MethodName) (head1 (Jvm.Cond.code (⟨"java/util/ImmutableCollections$List12", "size", "()I"⟩ : MethodName) jdk_44_method_3_code 1 (some .int) :: ws) R12) (fun a U => a = #[(.ref a1)] ∧ Z.Warmed39 U.vm ∧ U.heap = h0) (fun _ _ _ _ _ => True) (fun _ U o U' => ∃ v L, o = .returned v ∧ Q12 Z a1 a3 w1 h0 n0 v U'.heap L ∧ FrameEnd U o U' L R12.cells R12.slots) := by
  refine MetFree.of_bodySF (plainFor_of_name pn_7) hisR ?_
  intro p e s m args below meth c s₁ Bd hml0 hP hK
  obtain ⟨rfl, hZ, hh⟩ := hP
  have hx := Bd.exec
  have hby := Bd.bytes
  have hlk : meth.locks = false := BodyLoose.notSynchronized Bd
  have hml : c.maxLocals = 1 := hml0
  have hown : s.vm.findClass "java/util/ImmutableCollections$List12" = some m.cls := findClass_of_methodNamed Bd.named
  have hnm := (name_of_methodNamed Bd.named Bd.method).1
  have X0 : Stand p l e R12 s m #[(.ref a1)] below meth c s₁ [] 0 0 := Stand.of_body Bd
  have e0 : s₁.heap = h0 := by rw [← hh, Bd.state]; rfl
  have N0 := Fr.nil n0
  show own_Goes p e below s (Q12 Z a1 a3 w1 h0 n0) R12.cells R12.slots s₁ (entryFrame m #[(.ref a1)] 1)
  rw [ef_12 m a1]
  refine own_step (f' := (mkF m 1 #[.val (.ref a1)] [(.ref a1)])) (fun _ k => XS.aloadN X0.here hx rfl (hb hby d12_0) rfl rfl k) ?_
  obtain ⟨T1, X1, e1, st1⟩ := getF X0 hx hZ hown (host := "") (Or.inl (hw _ (List.mem_of_getElem? (i := 72) rfl))) Via.refl e0 F_e1_a1 (g := (mkF m 1 #[.val (.ref a1)] [(.ref a1)])) rfl rfl (hb hby d12_1)
  refine own_step (f' := (mkF m 4 #[.val (.ref a1)] [(.ref a3)])) st1 ?_
  obtain ⟨T2, X2, e2, st2⟩ := getS2 X1 hx hZ hown (Or.inr (hw _ (List.mem_of_getElem? (i := 83) rfl))) Via.refl e1 S_EMPTY (g := (mkF m 4 #[.val (.ref a1)] [(.ref a3)])) rfl (hb hby d12_4)
  refine own_step (f' := (mkF m 7 #[.val (.ref a1)] [(.ref w1), (.ref a3)])) st2 ?_
  refine own_step (f' := (mkF m 10 #[.val (.ref a1)] [])) (fun _ k => Jvm.RoadKit.acmp (g := (mkF m 7 #[.val (.ref a1)] [(.ref w1), (.ref a3)])) X2 hx rfl rfl rfl (pc0 := 7) (pc' := 10) (same := false) rfl (hb hby d12_7) rfl (decide_eq_false fun q => ne_a3_w1 (Value.ref.inj q)) (by decide) (by decide) k) ?_
  refine own_step (f' := (mkF m 11 #[.val (.ref a1)] [(.int (2 : Int32))])) (fun _ k => XS.iconst X2.here hx rfl (hb hby d12_10) k) ?_
  refine own_step (f' := (mkF m 15 #[.val (.ref a1)] [(.int (2 : Int32))])) (fun _ k => XS.goto X2.here hx rfl (pc0 := 11) (pc' := 15) rfl (hb hby d12_11) (by decide) (by decide) k) ?_
  refine own_out (v := some (.int (2 : Int32))) X2 hlk (fun h => by rw [Bd.returns] at h; cases h) (fun fs hr => retOut X2 hx Bd.returns rfl (Or.inl ⟨rfl, Or.inl rfl, _, rfl⟩) (hb hby d12_15) hr) (by decide) (by decide) ?_
  rw [e2]
  exact ⟨rfl, rfl, rfl⟩
theorem d13_0 : decode jdk_44_method_5_code 0 = .ok (.iload_n 1, 1) := by decide +kernel
theorem d13_1 : decode jdk_44_method_5_code 1 = .ok (.ifCond .ne 8, 3) := by decide +kernel
theorem d13_4 : decode jdk_44_method_5_code 4 = .ok (.aload_n 0, 1) := by decide +kernel
theorem d13_5 : decode jdk_44_method_5_code 5 = .ok (.getfield 13, 3) := by decide +kernel
theorem d13_8 : decode jdk_44_method_5_code 8 = .ok (.areturn, 1) := by decide +kernel
theorem ef_13a (m : MethodId) (x0 : Addr) (x1 : Int32) : entryFrame m #[(.ref x0), (.int x1)] 2 = mkF m 0 #[.val (.ref x0), .val (.int x1)] [] := by first | (simp [entryFrame, mkF, argsToLocals, Value.category]; done) | rfl
def Q13a (Z : State) (a1 : Addr) (p2 : Int32) (a2 : Addr) (h0 : Heap) (n0 : Nat) (v : Option Value) (h : Heap) (L : List Loc) : Prop := v = some (.ref a2) ∧ L = [] ∧ h = h0
abbrev R13a : Room := { frames := 0, cells := 0, slots := 0, locals := 0 }
set_option maxRecDepth 65536 in
set_option maxHeartbeats 40000000 in
theorem rm13a (l : Launch) (Z : State) (a0 : Array Value) (hw : ∀ d ∈ tables_1, d.before a0 Z = true) (ws : List Jvm.Cond) (a1 : Addr) (p2 : Int32) (a2 : Addr) (h0 : Heap) (n0 : Nat) (Z0 : n0 ≤ h0.size) (F_e0_a1 : Fld Z h0 a1 "java/util/ImmutableCollections$List12" "e0" "Ljava/lang/Object;" (.ref a2)) (hp : p2 = (0 : Int32)) :
    MetFree l (⟨"java/util/ImmutableCollections$List12", "get", "(I)Ljava/lang/Object;"⟩ : MethodName) (head1 (Jvm.Cond.code (⟨"java/util/ImmutableCollections$List12", "get", "(I)Ljava/lang/Object;"⟩ : MethodName) jdk_44_method_5_code 2 (some (.object "java/lang/Object")) :: ws) R13a) (fun a U => a = #[(.ref a1), (.int p2)] ∧ Z.Warmed39 U.vm ∧ U.heap = h0) (fun _ _ _ _ _ => True) (fun _ U o U' => ∃ v L, o = .returned v ∧ Q13a Z a1 p2 a2 h0 n0 v U'.heap L ∧ FrameEnd U o U' L R13a.cells R13a.slots) := by
  refine MetFree.of_bodySF (plainFor_of_name pn_7) hisR ?_
  intro p e s m args below meth c s₁ Bd hml0 hP hK
  obtain ⟨rfl, hZ, hh⟩ := hP
  have hx := Bd.exec
  have hby := Bd.bytes
  have hlk : meth.locks = false := BodyLoose.notSynchronized Bd
  have hml : c.maxLocals = 2 := hml0
  have hown : s.vm.findClass "java/util/ImmutableCollections$List12" = some m.cls := findClass_of_methodNamed Bd.named
  have hnm := (name_of_methodNamed Bd.named Bd.method).1
  have X0 : Stand p l e R13a s m #[(.ref a1), (.int p2)] below meth c s₁ [] 0 0 := Stand.of_body Bd
  have e0 : s₁.heap = h0 := by rw [← hh, Bd.state]; rfl
  have N0 := Fr.nil n0
  show own_Goes p e below s (Q13a Z a1 p2 a2 h0 n0) R13a.cells R13a.slots s₁ (entryFrame m #[(.ref a1), (.int p2)] 2)
  rw [ef_13a m a1 p2]
  refine own_step (f' := (mkF m 1 #[.val (.ref a1), .val (.int p2)] [(.int p2)])) (fun _ k => XS.iloadN X0.here hx rfl (hb hby d13_0) rfl k) ?_
  have hf1_1 : p2 = (0 : Int32) := hp
  refine own_step (f' := (mkF m 4 #[.val (.ref a1), .val (.int p2)] [])) (fun _ k => XS.ifNo X0.here hx rfl (hb hby d13_1) rfl ((if0 _ _).trans (teq hf1_1).2) k) ?_
  refine own_step (f' := (mkF m 5 #[.val (.ref a1), .val (.int p2)] [(.ref a1)])) (fun _ k => XS.aloadN X0.here hx rfl (hb hby d13_4) rfl rfl k) ?_
  obtain ⟨T2, X2, e2, st2⟩ := getF X0 hx hZ hown (host := "") (Or.inl (hw _ (List.mem_of_getElem? (i := 70) rfl))) Via.refl e0 F_e0_a1 (g := (mkF m 5 #[.val (.ref a1), .val (.int p2)] [(.ref a1)])) rfl rfl (hb hby d13_5)
  refine own_step (f' := (mkF m 8 #[.val (.ref a1), .val (.int p2)] [(.ref a2)])) st2 ?_
  refine own_out (v := some (.ref a2)) X2 hlk (fun h => by rw [Bd.returns] at h; cases h) (fun fs hr => retOut X2 hx Bd.returns rfl (Or.inr (Or.inr (Or.inr (Or.inr ⟨rfl, rfl, rfl⟩)))) (hb hby d13_8) hr) (by decide) (by decide) ?_
  rw [e2]
  exact ⟨rfl, rfl, rfl⟩
theorem d13_9 : decode jdk_44_method_5_code 9 = .ok (.iload_n 1, 1) := by decide +kernel
theorem d13_10 : decode jdk_44_method_5_code 10 = .ok (.iconst 1, 1) := by decide +kernel
theorem d13_11 : decode jdk_44_method_5_code 11 = .ok (.if_icmp .ne 18, 3) := by decide +kernel
theorem d13_14 : decode jdk_44_method_5_code 14 = .ok (.aload_n 0, 1) := by decide +kernel
theorem d13_15 : decode jdk_44_method_5_code 15 = .ok (.getfield 24, 3) := by decide +kernel
theorem d13_18 : decode jdk_44_method_5_code 18 = .ok (.getstatic 19, 3) := by decide +kernel
theorem d13_21 : decode jdk_44_method_5_code 21 = .ok (.if_acmp .eq 8, 3) := by decide +kernel
theorem d13_24 : decode jdk_44_method_5_code 24 = .ok (.aload_n 0, 1) := by decide +kernel
theorem d13_25 : decode jdk_44_method_5_code 25 = .ok (.getfield 24, 3) := by decide +kernel
theorem d13_28 : decode jdk_44_method_5_code 28 = .ok (.areturn, 1) := by decide +kernel
theorem ef_13b (m : MethodId) (x0 : Addr) (x1 : Int32) : entryFrame m #[(.ref x0), (.int x1)] 2 = mkF m 0 #[.val (.ref x0), .val (.int x1)] [] := by first | (simp [entryFrame, mkF, argsToLocals, Value.category]; done) | rfl
def Q13b (Z : State) (a1 : Addr) (p2 : Int32) (a3 : Addr) (w1 : Addr) (h0 : Heap) (n0 : Nat) (v : Option Value) (h : Heap) (L : List Loc) : Prop := v = some (.ref a3) ∧ L = [] ∧ h = h0
abbrev R13b : Room := { frames := 0, cells := 0, slots := 0, locals := 0 }
set_option maxRecDepth 65536 in
set_option maxHeartbeats 40000000 in
theorem rm13b (l : Launch) (Z : State) (a0 : Array Value) (hw : ∀ d ∈ tables_1, d.before a0 Z = true) (ws : List Jvm.Cond) (a1 : Addr) (p2 : Int32) (a3 : Addr) (w1 : Addr) (h0 : Heap) (n0 : Nat) (Z0 : n0 ≤ h0.size) (F_e1_a1 : Fld Z h0 a1 "java/util/ImmutableCollections$List12" "e1" "Ljava/lang/Object;" (.ref a3)) (S_EMPTY : Sta Z h0 "java/util/ImmutableCollections" "EMPTY" "Ljava/lang/Object;" (.ref w1)) (ne_a3_w1 : a3 ≠ w1) (hp : p2 = (1 : Int32)) :
    MetFree l (⟨"java/util/ImmutableCollections$List12", "get", "(I)Ljava/lang/Object;"⟩ : MethodName) (head1 (Jvm.Cond.code (⟨"java/util/ImmutableCollections$List12", "get", "(I)Ljava/lang/Object;"⟩ : MethodName) jdk_44_method_5_code 2 (some (.object "java/lang/Object")) :: ws) R13b) (fun a U => a = #[(.ref a1), (.int p2)] ∧ Z.Warmed39 U.vm ∧ U.heap = h0) (fun _ _ _ _ _ => True) (fun _ U o U' => ∃ v L, o = .returned v ∧ Q13b Z a1 p2 a3 w1 h0 n0 v U'.heap L ∧ FrameEnd U o U' L R13b.cells R13b.slots) := by
  refine MetFree.of_bodySF (plainFor_of_name pn_7) hisR ?_
  intro p e s m args below meth c s₁ Bd hml0 hP hK
  obtain ⟨rfl, hZ, hh⟩ := hP
  have hx := Bd.exec
  have hby := Bd.bytes
  have hlk : meth.locks = false := BodyLoose.notSynchronized Bd
  have hml : c.maxLocals = 2 := hml0
  have hown : s.vm.findClass "java/util/ImmutableCollections$List12" = some m.cls := findClass_of_methodNamed Bd.named
  have hnm := (name_of_methodNamed Bd.named Bd.method).1
  have X0 : Stand p l e R13b s m #[(.ref a1), (.int p2)] below meth c s₁ [] 0 0 := Stand.of_body Bd
  have e0 : s₁.heap = h0 := by rw [← hh, Bd.state]; rfl
  have N0 := Fr.nil n0
  show own_Goes p e below s (Q13b Z a1 p2 a3 w1 h0 n0) R13b.cells R13b.slots s₁ (entryFrame m #[(.ref a1), (.int p2)] 2)
  rw [ef_13b m a1 p2]
  refine own_step (f' := (mkF m 1 #[.val (.ref a1), .val (.int p2)] [(.int p2)])) (fun _ k => XS.iloadN X0.here hx rfl (hb hby d13_0) rfl k) ?_
  have hf1_1 : ¬ (p2 = (0 : Int32)) := (by rw [hp]; decide)
  refine own_step (f' := (mkF m 9 #[.val (.ref a1), .val (.int p2)] [])) (fun _ k => XS.ifYes X0.here hx rfl (pc0 := 1) (pc' := 9) rfl (hb hby d13_1) rfl ((if0 _ _).trans (feq hf1_1).2) (by decide) (by decide) k) ?_
  refine own_step (f' := (mkF m 10 #[.val (.ref a1), .val (.int p2)] [(.int p2)])) (fun _ k => XS.iloadN X0.here hx rfl (hb hby d13_9) rfl k) ?_
  refine own_step (f' := (mkF m 11 #[.val (.ref a1), .val (.int p2)] [(.int (1 : Int32)), (.int p2)])) (fun _ k => XS.iconst X0.here hx rfl (hb hby d13_10) k) ?_
  have hf11_2 : p2 = (1 : Int32) := hp
  refine own_step (f' := (mkF m 14 #[.val (.ref a1), .val (.int p2)] [])) (fun _ k => XS.icmpNo X0.here hx rfl (hb hby d13_11) rfl (teq hf11_2).2 k) ?_
  refine own_step (f' := (mkF m 15 #[.val (.ref a1), .val (.int p2)] [(.ref a1)])) (fun _ k => XS.aloadN X0.here hx rfl (hb hby d13_14) rfl rfl k) ?_
  obtain ⟨T3, X3, e3, st3⟩ := getF X0 hx hZ hown (host := "") (Or.inl (hw _ (List.mem_of_getElem? (i := 72) rfl))) Via.refl e0 F_e1_a1 (g := (mkF m 15 #[.val (.ref a1), .val (.int p2)] [(.ref a1)])) rfl rfl (hb hby d13_15)
  refine own_step (f' := (mkF m 18 #[.val (.ref a1), .val (.int p2)] [(.ref a3)])) st3 ?_
  obtain ⟨T4, X4, e4, st4⟩ := getS2 X3 hx hZ hown (Or.inr (hw _ (List.mem_of_getElem? (i := 83) rfl))) Via.refl e3 S_EMPTY (g := (mkF m 18 #[.val (.ref a1), .val (.int p2)] [(.ref a3)])) rfl (hb hby d13_18)
  refine own_step (f' := (mkF m 21 #[.val (.ref a1), .val (.int p2)] [(.ref w1), (.ref a3)])) st4 ?_
  refine own_step (f' := (mkF m 24 #[.val (.ref a1), .val (.int p2)] [])) (fun _ k => Jvm.RoadKit.acmp (g := (mkF m 21 #[.val (.ref a1), .val (.int p2)] [(.ref w1), (.ref a3)])) X4 hx rfl rfl rfl (pc0 := 21) (pc' := 24) (same := false) rfl (hb hby d13_21) rfl (decide_eq_false fun q => ne_a3_w1 (Value.ref.inj q)) (by decide) (by decide) k) ?_
  refine own_step (f' := (mkF m 25 #[.val (.ref a1), .val (.int p2)] [(.ref a1)])) (fun _ k => XS.aloadN X4.here hx rfl (hb hby d13_24) rfl rfl k) ?_
  obtain ⟨T5, X5, e5, st5⟩ := getF X4 hx hZ hown (host := "") (Or.inl (hw _ (List.mem_of_getElem? (i := 72) rfl))) Via.refl e4 F_e1_a1 (g := (mkF m 25 #[.val (.ref a1), .val (.int p2)] [(.ref a1)])) rfl rfl (hb hby d13_25)
  refine own_step (f' := (mkF m 28 #[.val (.ref a1), .val (.int p2)] [(.ref a3)])) st5 ?_
  refine own_out (v := some (.ref a3)) X5 hlk (fun h => by rw [Bd.returns] at h; cases h) (fun fs hr => retOut X5 hx Bd.returns rfl (Or.inr (Or.inr (Or.inr (Or.inr ⟨rfl, rfl, rfl⟩)))) (hb hby d13_28) hr) (by decide) (by decide) ?_
  rw [e5]
  exact ⟨rfl, rfl, rfl⟩
theorem own_max2 (a b : Int32) : own_hi a b = own_max a b := by
  unfold own_max own_hi
  (repeat' split) <;> simp only [Int32.lt_iff_toInt_lt, ← Int32.toInt_inj] at * <;> omega
theorem pd_4 : parseMethodDescriptor "(II)V" = some ⟨[.int, .int], none⟩ := by decide +kernel
theorem pd_5 : parseMethodDescriptor "(Lcom/example/kostyashki/kostyashki/tiles/Tile;Lcom/example/kostyashki/kostyashki/tiles/Tile;)V" = some ⟨[(.object "com/example/kostyashki/kostyashki/tiles/Tile"), (.object "com/example/kostyashki/kostyashki/tiles/Tile")], none⟩ := by decide +kernel
theorem pd_6 : parseMethodDescriptor "()Ljava/util/List;" = some ⟨[], some (.object "java/util/List")⟩ := by decide +kernel
theorem pd_7 : parseMethodDescriptor "()I" = some ⟨[], some .int⟩ := by decide +kernel
theorem pd_8 : parseMethodDescriptor "(I)Ljava/lang/Object;" = some ⟨[.int], some (.object "java/lang/Object")⟩ := by decide +kernel
theorem pd_9 : parseMethodDescriptor "(II)I" = some ⟨[.int, .int], some .int⟩ := by decide +kernel
theorem pn_9 : plainName "com/example/kostyashki/kostyashki/round/BothEndsTilesPinLaw" = true := by first | (simp [plainName, overriddenIn]; done) | decide +kernel
theorem ef_0 (m : MethodId) (x0 : Int32) (x1 : Int32) (x2 : Int32) (x3 : Int32) : entryFrame m #[(.int x0), (.int x1), (.int x2), (.int x3)] maxLocals = mkF m 0 #[.val (.int x0), .val (.int x1), .val (.int x2), .val (.int x3), .unset, .unset, .unset, .unset, .unset, .unset, .unset, .unset, .unset, .unset] [] := by first | (simp [entryFrame, mkF, argsToLocals, Value.category, maxLocals]; done) | rfl
def Q0 (Z : State) (i1 : Int32) (i2 : Int32) (i3 : Int32) (i4 : Int32) (w1 : Addr) (h0 : Heap) (n0 : Nat) (v : Option Value) (h : Heap) (L : List Loc) : Prop := v = some (.int 1) ∧ Fr n0 L
set_option maxRecDepth 65536 in
set_option maxHeartbeats 40000000 in
theorem rm0 (l : Launch) (Z : State) (a0 : Array Value) (hw : ∀ d ∈ tables_1, d.before a0 Z = true) (ws : List Jvm.Cond) (i1 : Int32) (i2 : Int32) (i3 : Int32) (i4 : Int32) (w1 : Addr) (h0 : Heap) (n0 : Nat) (Z0 : n0 ≤ h0.size) (S_EMPTY : Sta Z h0 "java/util/ImmutableCollections" "EMPTY" "Ljava/lang/Object;" (.ref w1)) (E_w1 : Exa Z h0 w1 "java/lang/Object") :
    MetFree l x (head1 (Jvm.Cond.code x code maxLocals ret :: ws) room_1) (fun a U => a = #[(.int i1), (.int i2), (.int i3), (.int i4)] ∧ Z.Warmed39 U.vm ∧ U.heap = h0) (fun _ _ _ _ _ => True) (fun _ U o U' => ∃ v L, o = .returned v ∧ Q0 Z i1 i2 i3 i4 w1 h0 n0 v U'.heap L ∧ FrameEnd U o U' L room_1.cells room_1.slots) := by
  refine MetFree.of_bodySF (plainFor_of_name pn_9) hisR ?_
  intro p e s m args below meth c s₁ Bd hml0 hP hK
  obtain ⟨rfl, hZ, hh⟩ := hP
  have hx := Bd.exec
  have hby := Bd.bytes
  have hlk : meth.locks = false := BodyLoose.notSynchronized Bd
  have hml : c.maxLocals = 14 := hml0
  have hown : s.vm.findClass "com/example/kostyashki/kostyashki/round/BothEndsTilesPinLaw" = some m.cls := findClass_of_methodNamed Bd.named
  have hnm := (name_of_methodNamed Bd.named Bd.method).1
  have X0 : Stand p l e room_1 s m #[(.int i1), (.int i2), (.int i3), (.int i4)] below meth c s₁ [] 0 0 := Stand.of_body Bd
  have e0 : s₁.heap = h0 := by rw [← hh, Bd.state]; rfl
  have N0 := Fr.nil n0
  show own_Goes p e below s (Q0 Z i1 i2 i3 i4 w1 h0 n0) room_1.cells room_1.slots s₁ (entryFrame m #[(.int i1), (.int i2), (.int i3), (.int i4)] maxLocals)
  rw [ef_0 m i1 i2 i3 i4]
  refine own_step (f' := (mkF m 1 #[.val (.int i1), .val (.int i2), .val (.int i3), .val (.int i4), .unset, .unset, .unset, .unset, .unset, .unset, .unset, .unset, .unset, .unset] [(.int i1)])) (fun _ k => XS.iloadN X0.here hx rfl (hb hby at_0) rfl k) ?_
  refine own_step (f' := (mkF m 3 #[.val (.int i1), .val (.int i2), .val (.int i3), .val (.int i4), .unset, .unset, .unset, .unset, .unset, .unset, .unset, .unset, .unset, .unset] [(.int (2147483647 : Int32)), (.int i1)])) (fun _ k => X0.ldcInt hx hown (mvT hZ (hw _ (List.mem_of_getElem? (i := 0) rfl))) (g := (mkF m 1 #[.val (.int i1), .val (.int i2), .val (.int i3), .val (.int i4), .unset, .unset, .unset, .unset, .unset, .unset, .unset, .unset, .unset, .unset] [(.int i1)])) rfl (hb hby at_1) _ k) ?_
  refine own_step (f' := (mkF m 4 #[.val (.int i1), .val (.int i2), .val (.int i3), .val (.int i4), .unset, .unset, .unset, .unset, .unset, .unset, .unset, .unset, .unset, .unset] [(.int (i1 &&& (2147483647 : Int32)))])) (fun _ k => XS.iand X0.here hx rfl (hb hby at_3) rfl k) ?_
  refine own_step (f' := (mkF m 6 #[.val (.int i1), .val (.int i2), .val (.int i3), .val (.int i4), .unset, .unset, .unset, .unset, .unset, .unset, .unset, .unset, .unset, .unset] [(.int (7 : Int32)), (.int (i1 &&& (2147483647 : Int32)))])) (fun _ k => XS.bipush X0.here hx rfl (hb hby at_4) k) ?_
  refine own_step (f' := (mkF m 7 #[.val (.int i1), .val (.int i2), .val (.int i3), .val (.int i4), .unset, .unset, .unset, .unset, .unset, .unset, .unset, .unset, .unset, .unset] [(.int ((i1 &&& (2147483647 : Int32)) % (7 : Int32)))])) (fun _ k => iremM X0 hx rfl (hb hby at_6) rfl (by decide) k) ?_
  refine own_step (f' := (mkF m 9 #[.val (.int i1), .val (.int i2), .val (.int i3), .val (.int i4), .val (.int ((i1 &&& (2147483647 : Int32)) % (7 : Int32))), .unset, .unset, .unset, .unset, .unset, .unset, .unset, .unset, .unset] [])) (fun _ k => XS.istore X0.here hx rfl (hb hby at_7) rfl (l' := #[.val (.int i1), .val (.int i2), .val (.int i3), .val (.int i4), .val (.int ((i1 &&& (2147483647 : Int32)) % (7 : Int32))), .unset, .unset, .unset, .unset, .unset, .unset, .unset, .unset, .unset]) rfl k) ?_
  refine own_step (f' := (mkF m 10 #[.val (.int i1), .val (.int i2), .val (.int i3), .val (.int i4), .val (.int ((i1 &&& (2147483647 : Int32)) % (7 : Int32))), .unset, .unset, .unset, .unset, .unset, .unset, .unset, .unset, .unset] [(.int i2)])) (fun _ k => XS.iloadN X0.here hx rfl (hb hby at_9) rfl k) ?_
  refine own_step (f' := (mkF m 12 #[.val (.int i1), .val (.int i2), .val (.int i3), .val (.int i4), .val (.int ((i1 &&& (2147483647 : Int32)) % (7 : Int32))), .unset, .unset, .unset, .unset, .unset, .unset, .unset, .unset, .unset] [(.int (2147483647 : Int32)), (.int i2)])) (fun _ k => X0.ldcInt hx hown (mvT hZ (hw _ (List.mem_of_getElem? (i := 0) rfl))) (g := (mkF m 10 #[.val (.int i1), .val (.int i2), .val (.int i3), .val (.int i4), .val (.int ((i1 &&& (2147483647 : Int32)) % (7 : Int32))), .unset, .unset, .unset, .unset, .unset, .unset, .unset, .unset, .unset] [(.int i2)])) rfl (hb hby at_10) _ k) ?_
  refine own_step (f' := (mkF m 13 #[.val (.int i1), .val (.int i2), .val (.int i3), .val (.int i4), .val (.int ((i1 &&& (2147483647 : Int32)) % (7 : Int32))), .unset, .unset, .unset, .unset, .unset, .unset, .unset, .unset, .unset] [(.int (i2 &&& (2147483647 : Int32)))])) (fun _ k => XS.iand X0.here hx rfl (hb hby at_12) rfl k) ?_
  refine own_step (f' := (mkF m 15 #[.val (.int i1), .val (.int i2), .val (.int i3), .val (.int i4), .val (.int ((i1 &&& (2147483647 : Int32)) % (7 : Int32))), .unset, .unset, .unset, .unset, .unset, .unset, .unset, .unset, .unset] [(.int (7 : Int32)), (.int (i2 &&& (2147483647 : Int32)))])) (fun _ k => XS.bipush X0.here hx rfl (hb hby at_13) k) ?_
  refine own_step (f' := (mkF m 16 #[.val (.int i1), .val (.int i2), .val (.int i3), .val (.int i4), .val (.int ((i1 &&& (2147483647 : Int32)) % (7 : Int32))), .unset, .unset, .unset, .unset, .unset, .unset, .unset, .unset, .unset] [(.int ((i2 &&& (2147483647 : Int32)) % (7 : Int32)))])) (fun _ k => iremM X0 hx rfl (hb hby at_15) rfl (by decide) k) ?_
  refine own_step (f' := (mkF m 18 #[.val (.int i1), .val (.int i2), .val (.int i3), .val (.int i4), .val (.int ((i1 &&& (2147483647 : Int32)) % (7 : Int32))), .val (.int ((i2 &&& (2147483647 : Int32)) % (7 : Int32))), .unset, .unset, .unset, .unset, .unset, .unset, .unset, .unset] [])) (fun _ k => XS.istore X0.here hx rfl (hb hby at_16) rfl (l' := #[.val (.int i1), .val (.int i2), .val (.int i3), .val (.int i4), .val (.int ((i1 &&& (2147483647 : Int32)) % (7 : Int32))), .val (.int ((i2 &&& (2147483647 : Int32)) % (7 : Int32))), .unset, .unset, .unset, .unset, .unset, .unset, .unset, .unset]) rfl k) ?_
  refine own_step (f' := (mkF m 19 #[.val (.int i1), .val (.int i2), .val (.int i3), .val (.int i4), .val (.int ((i1 &&& (2147483647 : Int32)) % (7 : Int32))), .val (.int ((i2 &&& (2147483647 : Int32)) % (7 : Int32))), .unset, .unset, .unset, .unset, .unset, .unset, .unset, .unset] [(.int i3)])) (fun _ k => XS.iloadN X0.here hx rfl (hb hby at_18) rfl k) ?_
  refine own_step (f' := (mkF m 21 #[.val (.int i1), .val (.int i2), .val (.int i3), .val (.int i4), .val (.int ((i1 &&& (2147483647 : Int32)) % (7 : Int32))), .val (.int ((i2 &&& (2147483647 : Int32)) % (7 : Int32))), .unset, .unset, .unset, .unset, .unset, .unset, .unset, .unset] [(.int (2147483647 : Int32)), (.int i3)])) (fun _ k => X0.ldcInt hx hown (mvT hZ (hw _ (List.mem_of_getElem? (i := 0) rfl))) (g := (mkF m 19 #[.val (.int i1), .val (.int i2), .val (.int i3), .val (.int i4), .val (.int ((i1 &&& (2147483647 : Int32)) % (7 : Int32))), .val (.int ((i2 &&& (2147483647 : Int32)) % (7 : Int32))), .unset, .unset, .unset, .unset, .unset, .unset, .unset, .unset] [(.int i3)])) rfl (hb hby at_19) _ k) ?_
  refine own_step (f' := (mkF m 22 #[.val (.int i1), .val (.int i2), .val (.int i3), .val (.int i4), .val (.int ((i1 &&& (2147483647 : Int32)) % (7 : Int32))), .val (.int ((i2 &&& (2147483647 : Int32)) % (7 : Int32))), .unset, .unset, .unset, .unset, .unset, .unset, .unset, .unset] [(.int (i3 &&& (2147483647 : Int32)))])) (fun _ k => XS.iand X0.here hx rfl (hb hby at_21) rfl k) ?_
  refine own_step (f' := (mkF m 24 #[.val (.int i1), .val (.int i2), .val (.int i3), .val (.int i4), .val (.int ((i1 &&& (2147483647 : Int32)) % (7 : Int32))), .val (.int ((i2 &&& (2147483647 : Int32)) % (7 : Int32))), .unset, .unset, .unset, .unset, .unset, .unset, .unset, .unset] [(.int (7 : Int32)), (.int (i3 &&& (2147483647 : Int32)))])) (fun _ k => XS.bipush X0.here hx rfl (hb hby at_22) k) ?_
  refine own_step (f' := (mkF m 25 #[.val (.int i1), .val (.int i2), .val (.int i3), .val (.int i4), .val (.int ((i1 &&& (2147483647 : Int32)) % (7 : Int32))), .val (.int ((i2 &&& (2147483647 : Int32)) % (7 : Int32))), .unset, .unset, .unset, .unset, .unset, .unset, .unset, .unset] [(.int ((i3 &&& (2147483647 : Int32)) % (7 : Int32)))])) (fun _ k => iremM X0 hx rfl (hb hby at_24) rfl (by decide) k) ?_
  refine own_step (f' := (mkF m 27 #[.val (.int i1), .val (.int i2), .val (.int i3), .val (.int i4), .val (.int ((i1 &&& (2147483647 : Int32)) % (7 : Int32))), .val (.int ((i2 &&& (2147483647 : Int32)) % (7 : Int32))), .val (.int ((i3 &&& (2147483647 : Int32)) % (7 : Int32))), .unset, .unset, .unset, .unset, .unset, .unset, .unset] [])) (fun _ k => XS.istore X0.here hx rfl (hb hby at_25) rfl (l' := #[.val (.int i1), .val (.int i2), .val (.int i3), .val (.int i4), .val (.int ((i1 &&& (2147483647 : Int32)) % (7 : Int32))), .val (.int ((i2 &&& (2147483647 : Int32)) % (7 : Int32))), .val (.int ((i3 &&& (2147483647 : Int32)) % (7 : Int32))), .unset, .unset, .unset, .unset, .unset, .unset, .unset]) rfl k) ?_
  refine own_step (f' := (mkF m 28 #[.val (.int i1), .val (.int i2), .val (.int i3), .val (.int i4), .val (.int ((i1 &&& (2147483647 : Int32)) % (7 : Int32))), .val (.int ((i2 &&& (2147483647 : Int32)) % (7 : Int32))), .val (.int ((i3 &&& (2147483647 : Int32)) % (7 : Int32))), .unset, .unset, .unset, .unset, .unset, .unset, .unset] [(.int i4)])) (fun _ k => XS.iloadN X0.here hx rfl (hb hby at_27) rfl k) ?_
  refine own_step (f' := (mkF m 30 #[.val (.int i1), .val (.int i2), .val (.int i3), .val (.int i4), .val (.int ((i1 &&& (2147483647 : Int32)) % (7 : Int32))), .val (.int ((i2 &&& (2147483647 : Int32)) % (7 : Int32))), .val (.int ((i3 &&& (2147483647 : Int32)) % (7 : Int32))), .unset, .unset, .unset, .unset, .unset, .unset, .unset] [(.int (2147483647 : Int32)), (.int i4)])) (fun _ k => X0.ldcInt hx hown (mvT hZ (hw _ (List.mem_of_getElem? (i := 0) rfl))) (g := (mkF m 28 #[.val (.int i1), .val (.int i2), .val (.int i3), .val (.int i4), .val (.int ((i1 &&& (2147483647 : Int32)) % (7 : Int32))), .val (.int ((i2 &&& (2147483647 : Int32)) % (7 : Int32))), .val (.int ((i3 &&& (2147483647 : Int32)) % (7 : Int32))), .unset, .unset, .unset, .unset, .unset, .unset, .unset] [(.int i4)])) rfl (hb hby at_28) _ k) ?_
  refine own_step (f' := (mkF m 31 #[.val (.int i1), .val (.int i2), .val (.int i3), .val (.int i4), .val (.int ((i1 &&& (2147483647 : Int32)) % (7 : Int32))), .val (.int ((i2 &&& (2147483647 : Int32)) % (7 : Int32))), .val (.int ((i3 &&& (2147483647 : Int32)) % (7 : Int32))), .unset, .unset, .unset, .unset, .unset, .unset, .unset] [(.int (i4 &&& (2147483647 : Int32)))])) (fun _ k => XS.iand X0.here hx rfl (hb hby at_30) rfl k) ?_
  refine own_step (f' := (mkF m 33 #[.val (.int i1), .val (.int i2), .val (.int i3), .val (.int i4), .val (.int ((i1 &&& (2147483647 : Int32)) % (7 : Int32))), .val (.int ((i2 &&& (2147483647 : Int32)) % (7 : Int32))), .val (.int ((i3 &&& (2147483647 : Int32)) % (7 : Int32))), .unset, .unset, .unset, .unset, .unset, .unset, .unset] [(.int (7 : Int32)), (.int (i4 &&& (2147483647 : Int32)))])) (fun _ k => XS.bipush X0.here hx rfl (hb hby at_31) k) ?_
  refine own_step (f' := (mkF m 34 #[.val (.int i1), .val (.int i2), .val (.int i3), .val (.int i4), .val (.int ((i1 &&& (2147483647 : Int32)) % (7 : Int32))), .val (.int ((i2 &&& (2147483647 : Int32)) % (7 : Int32))), .val (.int ((i3 &&& (2147483647 : Int32)) % (7 : Int32))), .unset, .unset, .unset, .unset, .unset, .unset, .unset] [(.int ((i4 &&& (2147483647 : Int32)) % (7 : Int32)))])) (fun _ k => iremM X0 hx rfl (hb hby at_33) rfl (by decide) k) ?_
  refine own_step (f' := (mkF m 36 #[.val (.int i1), .val (.int i2), .val (.int i3), .val (.int i4), .val (.int ((i1 &&& (2147483647 : Int32)) % (7 : Int32))), .val (.int ((i2 &&& (2147483647 : Int32)) % (7 : Int32))), .val (.int ((i3 &&& (2147483647 : Int32)) % (7 : Int32))), .val (.int ((i4 &&& (2147483647 : Int32)) % (7 : Int32))), .unset, .unset, .unset, .unset, .unset, .unset] [])) (fun _ k => XS.istore X0.here hx rfl (hb hby at_34) rfl (l' := #[.val (.int i1), .val (.int i2), .val (.int i3), .val (.int i4), .val (.int ((i1 &&& (2147483647 : Int32)) % (7 : Int32))), .val (.int ((i2 &&& (2147483647 : Int32)) % (7 : Int32))), .val (.int ((i3 &&& (2147483647 : Int32)) % (7 : Int32))), .val (.int ((i4 &&& (2147483647 : Int32)) % (7 : Int32))), .unset, .unset, .unset, .unset, .unset, .unset]) rfl k) ?_
  obtain ⟨T1, h1, X1, e1, E1, A1, D1, -, st1⟩ := newO X0 hx hZ hown (hw _ (List.mem_of_getElem? (i := 1) rfl)) (hw _ (List.mem_of_getElem? (i := 2) rfl)) (hw _ (List.mem_of_getElem? (i := 3) rfl)) e0 (g := (mkF m 36 #[.val (.int i1), .val (.int i2), .val (.int i3), .val (.int i4), .val (.int ((i1 &&& (2147483647 : Int32)) % (7 : Int32))), .val (.int ((i2 &&& (2147483647 : Int32)) % (7 : Int32))), .val (.int ((i3 &&& (2147483647 : Int32)) % (7 : Int32))), .val (.int ((i4 &&& (2147483647 : Int32)) % (7 : Int32))), .unset, .unset, .unset, .unset, .unset, .unset] [])) rfl (hb hby at_36) (by decide) (by decide)
  obtain ⟨b1, g1⟩ : ∃ z, z = h0.size := ⟨_, rfl⟩
  rw [← g1] at A1 D1 st1
  have ne_w1_b1 : w1 ≠ b1 := Nat.ne_of_lt (Nat.lt_of_lt_of_le E_w1.lt (Nat.le_of_eq g1.symm))
  have g_b1 : n0 ≤ b1 := Nat.le_trans Z0 (Nat.le_of_eq g1.symm)
  have F_low_b1 : Fld Z h1 b1 "com/example/kostyashki/kostyashki/tiles/Tile" "low" "I" (.int (0 : Int32)) := D1 (Or.inr (hw _ (List.mem_of_getElem? (i := 16) rfl))) (ty := .int) (by decide)
  have F_high_b1 : Fld Z h1 b1 "com/example/kostyashki/kostyashki/tiles/Tile" "high" "I" (.int (0 : Int32)) := D1 (Or.inr (hw _ (List.mem_of_getElem? (i := 18) rfl))) (ty := .int) (by decide)
  refine own_step (f' := (mkF m 39 #[.val (.int i1), .val (.int i2), .val (.int i3), .val (.int i4), .val (.int ((i1 &&& (2147483647 : Int32)) % (7 : Int32))), .val (.int ((i2 &&& (2147483647 : Int32)) % (7 : Int32))), .val (.int ((i3 &&& (2147483647 : Int32)) % (7 : Int32))), .val (.int ((i4 &&& (2147483647 : Int32)) % (7 : Int32))), .unset, .unset, .unset, .unset, .unset, .unset] [(.ref b1)])) st1 ?_
  refine own_step (f' := (mkF m 40 #[.val (.int i1), .val (.int i2), .val (.int i3), .val (.int i4), .val (.int ((i1 &&& (2147483647 : Int32)) % (7 : Int32))), .val (.int ((i2 &&& (2147483647 : Int32)) % (7 : Int32))), .val (.int ((i3 &&& (2147483647 : Int32)) % (7 : Int32))), .val (.int ((i4 &&& (2147483647 : Int32)) % (7 : Int32))), .unset, .unset, .unset, .unset, .unset, .unset] [(.ref b1), (.ref b1)])) (fun _ k => XS.dup X1.here hx rfl (hb hby at_39) rfl rfl k) ?_
  refine own_step (f' := (mkF m 42 #[.val (.int i1), .val (.int i2), .val (.int i3), .val (.int i4), .val (.int ((i1 &&& (2147483647 : Int32)) % (7 : Int32))), .val (.int ((i2 &&& (2147483647 : Int32)) % (7 : Int32))), .val (.int ((i3 &&& (2147483647 : Int32)) % (7 : Int32))), .val (.int ((i4 &&& (2147483647 : Int32)) % (7 : Int32))), .unset, .unset, .unset, .unset, .unset, .unset] [(.int ((i1 &&& (2147483647 : Int32)) % (7 : Int32))), (.ref b1), (.ref b1)])) (fun _ k => XS.iload X1.here hx rfl (hb hby at_40) rfl k) ?_
  refine own_step (f' := (mkF m 44 #[.val (.int i1), .val (.int i2), .val (.int i3), .val (.int i4), .val (.int ((i1 &&& (2147483647 : Int32)) % (7 : Int32))), .val (.int ((i2 &&& (2147483647 : Int32)) % (7 : Int32))), .val (.int ((i3 &&& (2147483647 : Int32)) % (7 : Int32))), .val (.int ((i4 &&& (2147483647 : Int32)) % (7 : Int32))), .unset, .unset, .unset, .unset, .unset, .unset] [(.int ((i2 &&& (2147483647 : Int32)) % (7 : Int32))), (.int ((i1 &&& (2147483647 : Int32)) % (7 : Int32))), (.ref b1), (.ref b1)])) (fun _ k => XS.iload X1.here hx rfl (hb hby at_42) rfl k) ?_
  have hp2_hp1 : ¬ (((i1 &&& (2147483647 : Int32)) % (7 : Int32)) < (0 : Int32)) := (own_m7 _).1
  have hp2_hp2 : ¬ ((6 : Int32) < ((i1 &&& (2147483647 : Int32)) % (7 : Int32))) := (own_m7 _).2
  have hp2_hp3 : ¬ (((i2 &&& (2147483647 : Int32)) % (7 : Int32)) < (0 : Int32)) := (own_m7 _).1
  have hp2_hp4 : ¬ ((6 : Int32) < ((i2 &&& (2147483647 : Int32)) % (7 : Int32))) := (own_m7 _).2
  have Zq2 : n0 ≤ h1.size := (Nat.le_trans Z0 E1.1)
  obtain ⟨_, _, ⟨T2, L2, k2, n2⟩, -, X2, ⟨Lc2, hQ2, l2, y2, z2⟩, st2⟩ := X1.specialBack hx (y := (⟨"com/example/kostyashki/kostyashki/tiles/Tile", "<init>", "(II)V"⟩ : MethodName)) rfl hown (mvT hZ (hw _ (List.mem_of_getElem? (i := 4) rfl))) (mvT hZ (hw _ (List.mem_of_getElem? (i := 5) rfl))) (mvT hZ (hw _ (List.mem_of_getElem? (i := 6) rfl))) (by decide) (backOf (W := 1) (rm1 l Z a0 hw [] b1 ((i1 &&& (2147483647 : Int32)) % (7 : Int32)) ((i2 &&& (2147483647 : Int32)) % (7 : Int32)) (.int (0 : Int32)) (.int (0 : Int32)) h1 n0 Zq2 A1 F_low_b1 F_high_b1 g_b1 hp2_hp1 hp2_hp2 hp2_hp3 hp2_hp4) hZ (hw _ (List.mem_of_getElem? (i := 6) rfl)) (hw _ (List.mem_of_getElem? (i := 3) rfl)) (by decide) (by decide)) (g := (mkF m 44 #[.val (.int i1), .val (.int i2), .val (.int i3), .val (.int i4), .val (.int ((i1 &&& (2147483647 : Int32)) % (7 : Int32))), .val (.int ((i2 &&& (2147483647 : Int32)) % (7 : Int32))), .val (.int ((i3 &&& (2147483647 : Int32)) % (7 : Int32))), .val (.int ((i4 &&& (2147483647 : Int32)) % (7 : Int32))), .unset, .unset, .unset, .unset, .unset, .unset] [(.int ((i2 &&& (2147483647 : Int32)) % (7 : Int32))), (.int ((i1 &&& (2147483647 : Int32)) % (7 : Int32))), (.ref b1), (.ref b1)])) rfl (by rw [hml]; rfl) (Steps.refl _) (a := b1) (argsL := [(.int ((i1 &&& (2147483647 : Int32)) % (7 : Int32))), (.int ((i2 &&& (2147483647 : Int32)) % (7 : Int32)))]) (rest := [(.ref b1)]) (lenOf pd_4 rfl) rfl (by show 2 * 0 + _ ≤ _; exact Nat.le_of_eq rfl) (hb hby at_44) (fun _ _ => ⟨rfl, e1, (by decide : 1 + 0 ≤ _), (by decide : 2 + 0 ≤ _)⟩)
  dsimp only [Pt.U, Pt.locs, Pt.cells, Pt.slots] at X2 l2 y2 z2 st2 hQ2
  subst l2 y2 z2
  obtain ⟨rfl, Nq2, K2, P2_0, P2_1, P2_2⟩ := hQ2
  obtain ⟨Lo2, X2, N2⟩ : ∃ K, Stand p l e room_1 s m #[(.int i1), (.int i2), (.int i3), (.int i4)] below meth c T2 K 1 2 ∧ Fr n0 K := ⟨_, X2, (Fr.app N0 Nq2)⟩
  refine own_jump (f' := (mkF m 47 #[.val (.int i1), .val (.int i2), .val (.int i3), .val (.int i4), .val (.int ((i1 &&& (2147483647 : Int32)) % (7 : Int32))), .val (.int ((i2 &&& (2147483647 : Int32)) % (7 : Int32))), .val (.int ((i3 &&& (2147483647 : Int32)) % (7 : Int32))), .val (.int ((i4 &&& (2147483647 : Int32)) % (7 : Int32))), .unset, .unset, .unset, .unset, .unset, .unset] [(.ref b1)])) st2 ?_
  refine own_step (f' := (mkF m 49 #[.val (.int i1), .val (.int i2), .val (.int i3), .val (.int i4), .val (.int ((i1 &&& (2147483647 : Int32)) % (7 : Int32))), .val (.int ((i2 &&& (2147483647 : Int32)) % (7 : Int32))), .val (.int ((i3 &&& (2147483647 : Int32)) % (7 : Int32))), .val (.int ((i4 &&& (2147483647 : Int32)) % (7 : Int32))), .val (.ref b1), .unset, .unset, .unset, .unset, .unset] [])) (fun _ k => XS.astore X2.here hx rfl (hb hby at_47) rfl rfl (l' := #[.val (.int i1), .val (.int i2), .val (.int i3), .val (.int i4), .val (.int ((i1 &&& (2147483647 : Int32)) % (7 : Int32))), .val (.int ((i2 &&& (2147483647 : Int32)) % (7 : Int32))), .val (.int ((i3 &&& (2147483647 : Int32)) % (7 : Int32))), .val (.int ((i4 &&& (2147483647 : Int32)) % (7 : Int32))), .val (.ref b1), .unset, .unset, .unset, .unset, .unset]) rfl k) ?_
  obtain ⟨T3, h3, X3, e3, E3, A3, D3, -, st3⟩ := newO X2 hx hZ hown (hw _ (List.mem_of_getElem? (i := 1) rfl)) (hw _ (List.mem_of_getElem? (i := 2) rfl)) (hw _ (List.mem_of_getElem? (i := 3) rfl)) rfl (g := (mkF m 49 #[.val (.int i1), .val (.int i2), .val (.int i3), .val (.int i4), .val (.int ((i1 &&& (2147483647 : Int32)) % (7 : Int32))), .val (.int ((i2 &&& (2147483647 : Int32)) % (7 : Int32))), .val (.int ((i3 &&& (2147483647 : Int32)) % (7 : Int32))), .val (.int ((i4 &&& (2147483647 : Int32)) % (7 : Int32))), .val (.ref b1), .unset, .unset, .unset, .unset, .unset] [])) rfl (hb hby at_49) (by decide) (by decide)
  obtain ⟨b3, g3⟩ : ∃ z, z = T2.heap.size := ⟨_, rfl⟩
  rw [← g3] at A3 D3 st3
  have ne_w1_b3 : w1 ≠ b3 := Nat.ne_of_lt (Nat.lt_of_lt_of_le ((E_w1.ext E1).keep K2).lt (Nat.le_of_eq g3.symm))
  have ne_b1_b3 : b1 ≠ b3 := Nat.ne_of_lt (Nat.lt_of_lt_of_le P2_0.lt (Nat.le_of_eq g3.symm))
  have g_b3 : n0 ≤ b3 := Nat.le_trans (Nat.le_trans (Nat.le_trans Z0 E1.1) K2.1) (Nat.le_of_eq g3.symm)
  have F_low_b3 : Fld Z h3 b3 "com/example/kostyashki/kostyashki/tiles/Tile" "low" "I" (.int (0 : Int32)) := D3 (Or.inr (hw _ (List.mem_of_getElem? (i := 16) rfl))) (ty := .int) (by decide)
  have F_high_b3 : Fld Z h3 b3 "com/example/kostyashki/kostyashki/tiles/Tile" "high" "I" (.int (0 : Int32)) := D3 (Or.inr (hw _ (List.mem_of_getElem? (i := 18) rfl))) (ty := .int) (by decide)
  refine own_step (f' := (mkF m 52 #[.val (.int i1), .val (.int i2), .val (.int i3), .val (.int i4), .val (.int ((i1 &&& (2147483647 : Int32)) % (7 : Int32))), .val (.int ((i2 &&& (2147483647 : Int32)) % (7 : Int32))), .val (.int ((i3 &&& (2147483647 : Int32)) % (7 : Int32))), .val (.int ((i4 &&& (2147483647 : Int32)) % (7 : Int32))), .val (.ref b1), .unset, .unset, .unset, .unset, .unset] [(.ref b3)])) st3 ?_
  refine own_step (f' := (mkF m 53 #[.val (.int i1), .val (.int i2), .val (.int i3), .val (.int i4), .val (.int ((i1 &&& (2147483647 : Int32)) % (7 : Int32))), .val (.int ((i2 &&& (2147483647 : Int32)) % (7 : Int32))), .val (.int ((i3 &&& (2147483647 : Int32)) % (7 : Int32))), .val (.int ((i4 &&& (2147483647 : Int32)) % (7 : Int32))), .val (.ref b1), .unset, .unset, .unset, .unset, .unset] [(.ref b3), (.ref b3)])) (fun _ k => XS.dup X3.here hx rfl (hb hby at_52) rfl rfl k) ?_
  refine own_step (f' := (mkF m 55 #[.val (.int i1), .val (.int i2), .val (.int i3), .val (.int i4), .val (.int ((i1 &&& (2147483647 : Int32)) % (7 : Int32))), .val (.int ((i2 &&& (2147483647 : Int32)) % (7 : Int32))), .val (.int ((i3 &&& (2147483647 : Int32)) % (7 : Int32))), .val (.int ((i4 &&& (2147483647 : Int32)) % (7 : Int32))), .val (.ref b1), .unset, .unset, .unset, .unset, .unset] [(.int ((i3 &&& (2147483647 : Int32)) % (7 : Int32))), (.ref b3), (.ref b3)])) (fun _ k => XS.iload X3.here hx rfl (hb hby at_53) rfl k) ?_
  refine own_step (f' := (mkF m 57 #[.val (.int i1), .val (.int i2), .val (.int i3), .val (.int i4), .val (.int ((i1 &&& (2147483647 : Int32)) % (7 : Int32))), .val (.int ((i2 &&& (2147483647 : Int32)) % (7 : Int32))), .val (.int ((i3 &&& (2147483647 : Int32)) % (7 : Int32))), .val (.int ((i4 &&& (2147483647 : Int32)) % (7 : Int32))), .val (.ref b1), .unset, .unset, .unset, .unset, .unset] [(.int ((i4 &&& (2147483647 : Int32)) % (7 : Int32))), (.int ((i3 &&& (2147483647 : Int32)) % (7 : Int32))), (.ref b3), (.ref b3)])) (fun _ k => XS.iload X3.here hx rfl (hb hby at_55) rfl k) ?_
  have hp4_hp1 : ¬ (((i3 &&& (2147483647 : Int32)) % (7 : Int32)) < (0 : Int32)) := (own_m7 _).1
  have hp4_hp2 : ¬ ((6 : Int32) < ((i3 &&& (2147483647 : Int32)) % (7 : Int32))) := (own_m7 _).2
  have hp4_hp3 : ¬ (((i4 &&& (2147483647 : Int32)) % (7 : Int32)) < (0 : Int32)) := (own_m7 _).1
  have hp4_hp4 : ¬ ((6 : Int32) < ((i4 &&& (2147483647 : Int32)) % (7 : Int32))) := (own_m7 _).2
  have Zq4 : n0 ≤ h3.size := (Nat.le_trans (Nat.le_trans (Nat.le_trans Z0 E1.1) K2.1) E3.1)
  obtain ⟨_, _, ⟨T4, L4, k4, n4⟩, -, X4, ⟨Lc4, hQ4, l4, y4, z4⟩, st4⟩ := X3.specialBack hx (y := (⟨"com/example/kostyashki/kostyashki/tiles/Tile", "<init>", "(II)V"⟩ : MethodName)) rfl hown (mvT hZ (hw _ (List.mem_of_getElem? (i := 4) rfl))) (mvT hZ (hw _ (List.mem_of_getElem? (i := 5) rfl))) (mvT hZ (hw _ (List.mem_of_getElem? (i := 6) rfl))) (by decide) (backOf (W := 1) (rm1 l Z a0 hw [] b3 ((i3 &&& (2147483647 : Int32)) % (7 : Int32)) ((i4 &&& (2147483647 : Int32)) % (7 : Int32)) (.int (0 : Int32)) (.int (0 : Int32)) h3 n0 Zq4 A3 F_low_b3 F_high_b3 g_b3 hp4_hp1 hp4_hp2 hp4_hp3 hp4_hp4) hZ (hw _ (List.mem_of_getElem? (i := 6) rfl)) (hw _ (List.mem_of_getElem? (i := 3) rfl)) (by decide) (by decide)) (g := (mkF m 57 #[.val (.int i1), .val (.int i2), .val (.int i3), .val (.int i4), .val (.int ((i1 &&& (2147483647 : Int32)) % (7 : Int32))), .val (.int ((i2 &&& (2147483647 : Int32)) % (7 : Int32))), .val (.int ((i3 &&& (2147483647 : Int32)) % (7 : Int32))), .val (.int ((i4 &&& (2147483647 : Int32)) % (7 : Int32))), .val (.ref b1), .unset, .unset, .unset, .unset, .unset] [(.int ((i4 &&& (2147483647 : Int32)) % (7 : Int32))), (.int ((i3 &&& (2147483647 : Int32)) % (7 : Int32))), (.ref b3), (.ref b3)])) rfl (by rw [hml]; rfl) (Steps.refl _) (a := b3) (argsL := [(.int ((i3 &&& (2147483647 : Int32)) % (7 : Int32))), (.int ((i4 &&& (2147483647 : Int32)) % (7 : Int32)))]) (rest := [(.ref b3)]) (lenOf pd_4 rfl) rfl (by show 2 * 0 + _ ≤ _; exact Nat.le_of_eq rfl) (hb hby at_57) (fun _ _ => ⟨rfl, e3, (by decide : 2 + 0 ≤ _), (by decide : 4 + 0 ≤ _)⟩)
  dsimp only [Pt.U, Pt.locs, Pt.cells, Pt.slots] at X4 l4 y4 z4 st4 hQ4
  subst l4 y4 z4
  obtain ⟨rfl, Nq4, K4, P4_0, P4_1, P4_2⟩ := hQ4
  obtain ⟨Lo4, X4, N4⟩ : ∃ K, Stand p l e room_1 s m #[(.int i1), (.int i2), (.int i3), (.int i4)] below meth c T4 K 2 4 ∧ Fr n0 K := ⟨_, X4, (Fr.app N2 Nq4)⟩
  refine own_jump (f' := (mkF m 60 #[.val (.int i1), .val (.int i2), .val (.int i3), .val (.int i4), .val (.int ((i1 &&& (2147483647 : Int32)) % (7 : Int32))), .val (.int ((i2 &&& (2147483647 : Int32)) % (7 : Int32))), .val (.int ((i3 &&& (2147483647 : Int32)) % (7 : Int32))), .val (.int ((i4 &&& (2147483647 : Int32)) % (7 : Int32))), .val (.ref b1), .unset, .unset, .unset, .unset, .unset] [(.ref b3)])) st4 ?_
  refine own_step (f' := (mkF m 62 #[.val (.int i1), .val (.int i2), .val (.int i3), .val (.int i4), .val (.int ((i1 &&& (2147483647 : Int32)) % (7 : Int32))), .val (.int ((i2 &&& (2147483647 : Int32)) % (7 : Int32))), .val (.int ((i3 &&& (2147483647 : Int32)) % (7 : Int32))), .val (.int ((i4 &&& (2147483647 : Int32)) % (7 : Int32))), .val (.ref b1), .val (.ref b3), .unset, .unset, .unset, .unset] [])) (fun _ k => XS.astore X4.here hx rfl (hb hby at_60) rfl rfl (l' := #[.val (.int i1), .val (.int i2), .val (.int i3), .val (.int i4), .val (.int ((i1 &&& (2147483647 : Int32)) % (7 : Int32))), .val (.int ((i2 &&& (2147483647 : Int32)) % (7 : Int32))), .val (.int ((i3 &&& (2147483647 : Int32)) % (7 : Int32))), .val (.int ((i4 &&& (2147483647 : Int32)) % (7 : Int32))), .val (.ref b1), .val (.ref b3), .unset, .unset, .unset, .unset]) rfl k) ?_
  obtain ⟨T5, h5, X5, e5, E5, A5, D5, -, st5⟩ := newO X4 hx hZ hown (hw _ (List.mem_of_getElem? (i := 19) rfl)) (hw _ (List.mem_of_getElem? (i := 20) rfl)) (hw _ (List.mem_of_getElem? (i := 21) rfl)) rfl (g := (mkF m 62 #[.val (.int i1), .val (.int i2), .val (.int i3), .val (.int i4), .val (.int ((i1 &&& (2147483647 : Int32)) % (7 : Int32))), .val (.int ((i2 &&& (2147483647 : Int32)) % (7 : Int32))), .val (.int ((i3 &&& (2147483647 : Int32)) % (7 : Int32))), .val (.int ((i4 &&& (2147483647 : Int32)) % (7 : Int32))), .val (.ref b1), .val (.ref b3), .unset, .unset, .unset, .unset] [])) rfl (hb hby at_62) (by decide) (by decide)
  obtain ⟨b5, g5⟩ : ∃ z, z = T4.heap.size := ⟨_, rfl⟩
  rw [← g5] at A5 D5 st5
  have ne_w1_b5 : w1 ≠ b5 := Nat.ne_of_lt (Nat.lt_of_lt_of_le ((((E_w1.ext E1).keep K2).ext E3).keep K4).lt (Nat.le_of_eq g5.symm))
  have ne_b1_b5 : b1 ≠ b5 := Nat.ne_of_lt (Nat.lt_of_lt_of_le ((P2_0.ext E3).keep K4).lt (Nat.le_of_eq g5.symm))
  have ne_b3_b5 : b3 ≠ b5 := Nat.ne_of_lt (Nat.lt_of_lt_of_le P4_0.lt (Nat.le_of_eq g5.symm))
  have g_b5 : n0 ≤ b5 := Nat.le_trans (Nat.le_trans (Nat.le_trans (Nat.le_trans (Nat.le_trans Z0 E1.1) K2.1) E3.1) K4.1) (Nat.le_of_eq g5.symm)
  have F_first_b5 : Fld Z h5 b5 "com/example/kostyashki/kostyashki/round/BothEnds" "first" "Lcom/example/kostyashki/kostyashki/tiles/Tile;" .null := D5 (Or.inr (hw _ (List.mem_of_getElem? (i := 31) rfl))) (ty := (.object "com/example/kostyashki/kostyashki/tiles/Tile")) (by decide)
  have F_second_b5 : Fld Z h5 b5 "com/example/kostyashki/kostyashki/round/BothEnds" "second" "Lcom/example/kostyashki/kostyashki/tiles/Tile;" .null := D5 (Or.inr (hw _ (List.mem_of_getElem? (i := 33) rfl))) (ty := (.object "com/example/kostyashki/kostyashki/tiles/Tile")) (by decide)
  refine own_step (f' := (mkF m 65 #[.val (.int i1), .val (.int i2), .val (.int i3), .val (.int i4), .val (.int ((i1 &&& (2147483647 : Int32)) % (7 : Int32))), .val (.int ((i2 &&& (2147483647 : Int32)) % (7 : Int32))), .val (.int ((i3 &&& (2147483647 : Int32)) % (7 : Int32))), .val (.int ((i4 &&& (2147483647 : Int32)) % (7 : Int32))), .val (.ref b1), .val (.ref b3), .unset, .unset, .unset, .unset] [(.ref b5)])) st5 ?_
  refine own_step (f' := (mkF m 66 #[.val (.int i1), .val (.int i2), .val (.int i3), .val (.int i4), .val (.int ((i1 &&& (2147483647 : Int32)) % (7 : Int32))), .val (.int ((i2 &&& (2147483647 : Int32)) % (7 : Int32))), .val (.int ((i3 &&& (2147483647 : Int32)) % (7 : Int32))), .val (.int ((i4 &&& (2147483647 : Int32)) % (7 : Int32))), .val (.ref b1), .val (.ref b3), .unset, .unset, .unset, .unset] [(.ref b5), (.ref b5)])) (fun _ k => XS.dup X5.here hx rfl (hb hby at_65) rfl rfl k) ?_
  refine own_step (f' := (mkF m 68 #[.val (.int i1), .val (.int i2), .val (.int i3), .val (.int i4), .val (.int ((i1 &&& (2147483647 : Int32)) % (7 : Int32))), .val (.int ((i2 &&& (2147483647 : Int32)) % (7 : Int32))), .val (.int ((i3 &&& (2147483647 : Int32)) % (7 : Int32))), .val (.int ((i4 &&& (2147483647 : Int32)) % (7 : Int32))), .val (.ref b1), .val (.ref b3), .unset, .unset, .unset, .unset] [(.ref b1), (.ref b5), (.ref b5)])) (fun _ k => XS.aload X5.here hx rfl (hb hby at_66) rfl rfl k) ?_
  refine own_step (f' := (mkF m 70 #[.val (.int i1), .val (.int i2), .val (.int i3), .val (.int i4), .val (.int ((i1 &&& (2147483647 : Int32)) % (7 : Int32))), .val (.int ((i2 &&& (2147483647 : Int32)) % (7 : Int32))), .val (.int ((i3 &&& (2147483647 : Int32)) % (7 : Int32))), .val (.int ((i4 &&& (2147483647 : Int32)) % (7 : Int32))), .val (.ref b1), .val (.ref b3), .unset, .unset, .unset, .unset] [(.ref b3), (.ref b1), (.ref b5), (.ref b5)])) (fun _ k => XS.aload X5.here hx rfl (hb hby at_68) rfl rfl k) ?_
  have Zq6 : n0 ≤ h5.size := (Nat.le_trans (Nat.le_trans (Nat.le_trans (Nat.le_trans (Nat.le_trans Z0 E1.1) K2.1) E3.1) K4.1) E5.1)
  obtain ⟨_, _, ⟨T6, L6, k6, n6⟩, -, X6, ⟨Lc6, hQ6, l6, y6, z6⟩, st6⟩ := X5.specialBack hx (y := (⟨"com/example/kostyashki/kostyashki/round/BothEnds", "<init>", "(Lcom/example/kostyashki/kostyashki/tiles/Tile;Lcom/example/kostyashki/kostyashki/tiles/Tile;)V"⟩ : MethodName)) rfl hown (mvT hZ (hw _ (List.mem_of_getElem? (i := 22) rfl))) (mvT hZ (hw _ (List.mem_of_getElem? (i := 23) rfl))) (mvT hZ (hw _ (List.mem_of_getElem? (i := 24) rfl))) (by decide) (backOf (W := 1) (rm4 l Z a0 hw [] b5 b1 b3 .null .null h5 n0 Zq6 A5 F_first_b5 F_second_b5 g_b5) hZ (hw _ (List.mem_of_getElem? (i := 24) rfl)) (hw _ (List.mem_of_getElem? (i := 21) rfl)) (by decide) (by decide)) (g := (mkF m 70 #[.val (.int i1), .val (.int i2), .val (.int i3), .val (.int i4), .val (.int ((i1 &&& (2147483647 : Int32)) % (7 : Int32))), .val (.int ((i2 &&& (2147483647 : Int32)) % (7 : Int32))), .val (.int ((i3 &&& (2147483647 : Int32)) % (7 : Int32))), .val (.int ((i4 &&& (2147483647 : Int32)) % (7 : Int32))), .val (.ref b1), .val (.ref b3), .unset, .unset, .unset, .unset] [(.ref b3), (.ref b1), (.ref b5), (.ref b5)])) rfl (by rw [hml]; rfl) (Steps.refl _) (a := b5) (argsL := [(.ref b1), (.ref b3)]) (rest := [(.ref b5)]) (lenOf pd_5 rfl) rfl (by show 2 * 0 + _ ≤ _; exact Nat.le_of_eq rfl) (hb hby at_70) (fun _ _ => ⟨rfl, e5, (by decide : 3 + 0 ≤ _), (by decide : 6 + 0 ≤ _)⟩)
  dsimp only [Pt.U, Pt.locs, Pt.cells, Pt.slots] at X6 l6 y6 z6 st6 hQ6
  subst l6 y6 z6
  obtain ⟨rfl, Nq6, K6, P6_0, P6_1, P6_2⟩ := hQ6
  obtain ⟨Lo6, X6, N6⟩ : ∃ K, Stand p l e room_1 s m #[(.int i1), (.int i2), (.int i3), (.int i4)] below meth c T6 K 3 6 ∧ Fr n0 K := ⟨_, X6, (Fr.app N4 Nq6)⟩
  refine own_jump (f' := (mkF m 73 #[.val (.int i1), .val (.int i2), .val (.int i3), .val (.int i4), .val (.int ((i1 &&& (2147483647 : Int32)) % (7 : Int32))), .val (.int ((i2 &&& (2147483647 : Int32)) % (7 : Int32))), .val (.int ((i3 &&& (2147483647 : Int32)) % (7 : Int32))), .val (.int ((i4 &&& (2147483647 : Int32)) % (7 : Int32))), .val (.ref b1), .val (.ref b3), .unset, .unset, .unset, .unset] [(.ref b5)])) st6 ?_
  refine own_step (f' := (mkF m 75 #[.val (.int i1), .val (.int i2), .val (.int i3), .val (.int i4), .val (.int ((i1 &&& (2147483647 : Int32)) % (7 : Int32))), .val (.int ((i2 &&& (2147483647 : Int32)) % (7 : Int32))), .val (.int ((i3 &&& (2147483647 : Int32)) % (7 : Int32))), .val (.int ((i4 &&& (2147483647 : Int32)) % (7 : Int32))), .val (.ref b1), .val (.ref b3), .val (.ref b5), .unset, .unset, .unset] [])) (fun _ k => XS.astore X6.here hx rfl (hb hby at_73) rfl rfl (l' := #[.val (.int i1), .val (.int i2), .val (.int i3), .val (.int i4), .val (.int ((i1 &&& (2147483647 : Int32)) % (7 : Int32))), .val (.int ((i2 &&& (2147483647 : Int32)) % (7 : Int32))), .val (.int ((i3 &&& (2147483647 : Int32)) % (7 : Int32))), .val (.int ((i4 &&& (2147483647 : Int32)) % (7 : Int32))), .val (.ref b1), .val (.ref b3), .val (.ref b5), .unset, .unset, .unset]) rfl k) ?_
  refine own_step (f' := (mkF m 77 #[.val (.int i1), .val (.int i2), .val (.int i3), .val (.int i4), .val (.int ((i1 &&& (2147483647 : Int32)) % (7 : Int32))), .val (.int ((i2 &&& (2147483647 : Int32)) % (7 : Int32))), .val (.int ((i3 &&& (2147483647 : Int32)) % (7 : Int32))), .val (.int ((i4 &&& (2147483647 : Int32)) % (7 : Int32))), .val (.ref b1), .val (.ref b3), .val (.ref b5), .unset, .unset, .unset] [(.ref b5)])) (fun _ k => XS.aload X6.here hx rfl (hb hby at_75) rfl rfl k) ?_
  have Zq7 : n0 ≤ T6.heap.size := (Nat.le_trans (Nat.le_trans (Nat.le_trans (Nat.le_trans (Nat.le_trans (Nat.le_trans Z0 E1.1) K2.1) E3.1) K4.1) E5.1) K6.1)
  obtain ⟨cq7, kq7, q7a, q7b, q7c⟩ := isOf hZ rfl P6_0
  obtain ⟨_, _, ⟨T7, L7, k7, n7⟩, -, X7, ⟨Lc7, hQ7, l7, y7, z7⟩, st7⟩ := X6.virtualBack hx (y := (⟨"com/example/kostyashki/kostyashki/round/BothEnds", "tiles", "()Ljava/util/List;"⟩ : MethodName)) (z := (⟨"com/example/kostyashki/kostyashki/round/BothEnds", "tiles", "()Ljava/util/List;"⟩ : MethodName)) hown (mvT hZ (hw _ (List.mem_of_getElem? (i := 34) rfl))) (mvT hZ (hw _ (List.mem_of_getElem? (i := 35) rfl))) (notFace_of_selects (args := #[]) (mvT hZ (hw _ (List.mem_of_getElem? (i := 37) rfl)))) (mvT hZ (hw _ (List.mem_of_getElem? (i := 37) rfl))) (mvT hZ (hw _ (List.mem_of_getElem? (i := 36) rfl))) (by decide) (backOf (W := 0) (rm6 l Z a0 hw [] b5 b1 b3 T6.heap n0 Zq7 P6_1 P6_2) hZ (hw _ (List.mem_of_getElem? (i := 38) rfl)) (hw _ (List.mem_of_getElem? (i := 21) rfl)) (by decide) (by decide)) q7a q7c (g := (mkF m 77 #[.val (.int i1), .val (.int i2), .val (.int i3), .val (.int i4), .val (.int ((i1 &&& (2147483647 : Int32)) % (7 : Int32))), .val (.int ((i2 &&& (2147483647 : Int32)) % (7 : Int32))), .val (.int ((i3 &&& (2147483647 : Int32)) % (7 : Int32))), .val (.int ((i4 &&& (2147483647 : Int32)) % (7 : Int32))), .val (.ref b1), .val (.ref b3), .val (.ref b5), .unset, .unset, .unset] [(.ref b5)])) rfl (by rw [hml]; rfl) (Steps.refl _) (argsL := []) (rest := []) (lenOf pd_6 rfl) rfl (by show 2 * 0 + _ ≤ _; exact Nat.le_of_eq rfl) (hb hby at_77) (fun _ _ => ⟨rfl, rfl, (by decide : 3 + 1 ≤ _), (by decide : 6 + 2 ≤ _)⟩)
  dsimp only [Pt.U, Pt.locs, Pt.cells, Pt.slots] at X7 l7 y7 z7 st7 hQ7
  subst l7 y7 z7
  obtain ⟨b7, rfl, g_b7, sq_b7, Nq7, K7, P7_0, P7_1, P7_2⟩ := hQ7
  obtain ⟨Lo7, X7, N7⟩ : ∃ K, Stand p l e room_1 s m #[(.int i1), (.int i2), (.int i3), (.int i4)] below meth c T7 K 4 8 ∧ Fr n0 K := ⟨_, X7, (Fr.app N6 Nq7)⟩
  have ne_w1_b7 : w1 ≠ b7 := Nat.ne_of_lt (Nat.lt_of_lt_of_le ((((((E_w1.ext E1).keep K2).ext E3).keep K4).ext E5).keep K6).lt sq_b7)
  have ne_b1_b7 : b1 ≠ b7 := Nat.ne_of_lt (Nat.lt_of_lt_of_le ((((P2_0.ext E3).keep K4).ext E5).keep K6).lt sq_b7)
  have ne_b3_b7 : b3 ≠ b7 := Nat.ne_of_lt (Nat.lt_of_lt_of_le ((P4_0.ext E5).keep K6).lt sq_b7)
  have ne_b5_b7 : b5 ≠ b7 := Nat.ne_of_lt (Nat.lt_of_lt_of_le P6_0.lt sq_b7)
  refine own_jump (f' := (mkF m 80 #[.val (.int i1), .val (.int i2), .val (.int i3), .val (.int i4), .val (.int ((i1 &&& (2147483647 : Int32)) % (7 : Int32))), .val (.int ((i2 &&& (2147483647 : Int32)) % (7 : Int32))), .val (.int ((i3 &&& (2147483647 : Int32)) % (7 : Int32))), .val (.int ((i4 &&& (2147483647 : Int32)) % (7 : Int32))), .val (.ref b1), .val (.ref b3), .val (.ref b5), .unset, .unset, .unset] [(.ref b7)])) st7 ?_
  refine own_step (f' := (mkF m 82 #[.val (.int i1), .val (.int i2), .val (.int i3), .val (.int i4), .val (.int ((i1 &&& (2147483647 : Int32)) % (7 : Int32))), .val (.int ((i2 &&& (2147483647 : Int32)) % (7 : Int32))), .val (.int ((i3 &&& (2147483647 : Int32)) % (7 : Int32))), .val (.int ((i4 &&& (2147483647 : Int32)) % (7 : Int32))), .val (.ref b1), .val (.ref b3), .val (.ref b5), .val (.ref b7), .unset, .unset] [])) (fun _ k => XS.astore X7.here hx rfl (hb hby at_80) rfl rfl (l' := #[.val (.int i1), .val (.int i2), .val (.int i3), .val (.int i4), .val (.int ((i1 &&& (2147483647 : Int32)) % (7 : Int32))), .val (.int ((i2 &&& (2147483647 : Int32)) % (7 : Int32))), .val (.int ((i3 &&& (2147483647 : Int32)) % (7 : Int32))), .val (.int ((i4 &&& (2147483647 : Int32)) % (7 : Int32))), .val (.ref b1), .val (.ref b3), .val (.ref b5), .val (.ref b7), .unset, .unset]) rfl k) ?_
  refine own_step (f' := (mkF m 84 #[.val (.int i1), .val (.int i2), .val (.int i3), .val (.int i4), .val (.int ((i1 &&& (2147483647 : Int32)) % (7 : Int32))), .val (.int ((i2 &&& (2147483647 : Int32)) % (7 : Int32))), .val (.int ((i3 &&& (2147483647 : Int32)) % (7 : Int32))), .val (.int ((i4 &&& (2147483647 : Int32)) % (7 : Int32))), .val (.ref b1), .val (.ref b3), .val (.ref b5), .val (.ref b7), .unset, .unset] [(.ref b7)])) (fun _ k => XS.aload X7.here hx rfl (hb hby at_82) rfl rfl k) ?_
  have Zq8 : n0 ≤ T7.heap.size := (Nat.le_trans (Nat.le_trans (Nat.le_trans (Nat.le_trans (Nat.le_trans (Nat.le_trans (Nat.le_trans Z0 E1.1) K2.1) E3.1) K4.1) E5.1) K6.1) K7.1)
  obtain ⟨cq8, kq8, q8a, q8b, q8c⟩ := isOf hZ rfl P7_0
  obtain ⟨_, _, ⟨T8, L8, k8, n8⟩, -, X8, ⟨Lc8, hQ8, l8, y8, z8⟩, st8⟩ := X7.interfaceBack hx (xi := (⟨"java/util/List", "size", "()I"⟩ : MethodName)) (y := (⟨"java/util/ImmutableCollections$List12", "size", "()I"⟩ : MethodName)) hown (mvT hZ (hw _ (List.mem_of_getElem? (i := 74) rfl))) (mvT hZ (hw _ (List.mem_of_getElem? (i := 75) rfl))) (mvT hZ (hw _ (List.mem_of_getElem? (i := 76) rfl))) (mvT hZ (hw _ (List.mem_of_getElem? (i := 77) rfl))) (mvT hZ (hw _ (List.mem_of_getElem? (i := 78) rfl))) (mvT hZ (hw _ (List.mem_of_getElem? (i := 79) rfl))) (mvT hZ (hw _ (List.mem_of_getElem? (i := 80) rfl))) (mvT hZ (hw _ (List.mem_of_getElem? (i := 81) rfl))) (by decide) (backOf (W := 0) (rm12 l Z a0 hw [] b7 b3 w1 T7.heap n0 Zq8 P7_2 (own_staKeep (own_staKeep ((own_staKeep ((own_staKeep (S_EMPTY.ext E1) K2 (allS (own_exaNS A1) all0)).ext E3) K4 (allS (own_exaNS A3) all0)).ext E5) K6 (allS (own_exaNS A5) all0)) K7 all0) (Ne.symm ne_w1_b3)) hZ (hw _ (List.mem_of_getElem? (i := 82) rfl)) (hw _ (List.mem_of_getElem? (i := 45) rfl)) (by decide) (by decide)) q8a q8b q8c (g := (mkF m 84 #[.val (.int i1), .val (.int i2), .val (.int i3), .val (.int i4), .val (.int ((i1 &&& (2147483647 : Int32)) % (7 : Int32))), .val (.int ((i2 &&& (2147483647 : Int32)) % (7 : Int32))), .val (.int ((i3 &&& (2147483647 : Int32)) % (7 : Int32))), .val (.int ((i4 &&& (2147483647 : Int32)) % (7 : Int32))), .val (.ref b1), .val (.ref b3), .val (.ref b5), .val (.ref b7), .unset, .unset] [(.ref b7)])) rfl (by rw [hml]; rfl) (Steps.refl _) (argsL := []) (rest := []) (lenOf pd_7 rfl) rfl (by show 2 * 0 + _ ≤ _; exact Nat.le_of_eq rfl) (hb hby at_84) (fun _ _ => ⟨rfl, rfl, (by decide : 4 + 0 ≤ _), (by decide : 8 + 0 ≤ _)⟩)
  dsimp only [Pt.U, Pt.locs, Pt.cells, Pt.slots] at X8 l8 y8 z8 st8 hQ8
  subst l8 y8 z8
  obtain ⟨rfl, rfl, e8⟩ := hQ8
  try rw [List.append_nil] at X8
  refine own_jump (f' := (mkF m 89 #[.val (.int i1), .val (.int i2), .val (.int i3), .val (.int i4), .val (.int ((i1 &&& (2147483647 : Int32)) % (7 : Int32))), .val (.int ((i2 &&& (2147483647 : Int32)) % (7 : Int32))), .val (.int ((i3 &&& (2147483647 : Int32)) % (7 : Int32))), .val (.int ((i4 &&& (2147483647 : Int32)) % (7 : Int32))), .val (.ref b1), .val (.ref b3), .val (.ref b5), .val (.ref b7), .unset, .unset] [(.int (2 : Int32))])) st8 ?_
  refine own_step (f' := (mkF m 90 #[.val (.int i1), .val (.int i2), .val (.int i3), .val (.int i4), .val (.int ((i1 &&& (2147483647 : Int32)) % (7 : Int32))), .val (.int ((i2 &&& (2147483647 : Int32)) % (7 : Int32))), .val (.int ((i3 &&& (2147483647 : Int32)) % (7 : Int32))), .val (.int ((i4 &&& (2147483647 : Int32)) % (7 : Int32))), .val (.ref b1), .val (.ref b3), .val (.ref b5), .val (.ref b7), .unset, .unset] [(.int (2 : Int32)), (.int (2 : Int32))])) (fun _ k => XS.iconst X8.here hx rfl (hb hby at_89) k) ?_
  refine own_step (f' := (mkF m 95 #[.val (.int i1), .val (.int i2), .val (.int i3), .val (.int i4), .val (.int ((i1 &&& (2147483647 : Int32)) % (7 : Int32))), .val (.int ((i2 &&& (2147483647 : Int32)) % (7 : Int32))), .val (.int ((i3 &&& (2147483647 : Int32)) % (7 : Int32))), .val (.int ((i4 &&& (2147483647 : Int32)) % (7 : Int32))), .val (.ref b1), .val (.ref b3), .val (.ref b5), .val (.ref b7), .unset, .unset] [])) (fun _ k => XS.icmpYes X8.here hx rfl (pc0 := 90) (pc' := 95) rfl (hb hby at_90) rfl (teq (by decide : ((2 : Int32) = (2 : Int32)))).1 (by decide) (by decide) k) ?_
  refine own_step (f' := (mkF m 97 #[.val (.int i1), .val (.int i2), .val (.int i3), .val (.int i4), .val (.int ((i1 &&& (2147483647 : Int32)) % (7 : Int32))), .val (.int ((i2 &&& (2147483647 : Int32)) % (7 : Int32))), .val (.int ((i3 &&& (2147483647 : Int32)) % (7 : Int32))), .val (.int ((i4 &&& (2147483647 : Int32)) % (7 : Int32))), .val (.ref b1), .val (.ref b3), .val (.ref b5), .val (.ref b7), .unset, .unset] [(.ref b7)])) (fun _ k => XS.aload X8.here hx rfl (hb hby at_95) rfl rfl k) ?_
  refine own_step (f' := (mkF m 98 #[.val (.int i1), .val (.int i2), .val (.int i3), .val (.int i4), .val (.int ((i1 &&& (2147483647 : Int32)) % (7 : Int32))), .val (.int ((i2 &&& (2147483647 : Int32)) % (7 : Int32))), .val (.int ((i3 &&& (2147483647 : Int32)) % (7 : Int32))), .val (.int ((i4 &&& (2147483647 : Int32)) % (7 : Int32))), .val (.ref b1), .val (.ref b3), .val (.ref b5), .val (.ref b7), .unset, .unset] [(.int (0 : Int32)), (.ref b7)])) (fun _ k => XS.iconst X8.here hx rfl (hb hby at_97) k) ?_
  have hp9_hp : (0 : Int32) = (0 : Int32) := rfl
  have Zq9 : n0 ≤ T7.heap.size := (Nat.le_trans (Nat.le_trans (Nat.le_trans (Nat.le_trans (Nat.le_trans (Nat.le_trans (Nat.le_trans Z0 E1.1) K2.1) E3.1) K4.1) E5.1) K6.1) K7.1)
  obtain ⟨cq9, kq9, q9a, q9b, q9c⟩ := isOf hZ e8 P7_0
  obtain ⟨_, _, ⟨T9, L9, k9, n9⟩, -, X9, ⟨Lc9, hQ9, l9, y9, z9⟩, st9⟩ := X8.interfaceBack hx (xi := (⟨"java/util/List", "get", "(I)Ljava/lang/Object;"⟩ : MethodName)) (y := (⟨"java/util/ImmutableCollections$List12", "get", "(I)Ljava/lang/Object;"⟩ : MethodName)) hown (mvT hZ (hw _ (List.mem_of_getElem? (i := 85) rfl))) (mvT hZ (hw _ (List.mem_of_getElem? (i := 86) rfl))) (mvT hZ (hw _ (List.mem_of_getElem? (i := 87) rfl))) (mvT hZ (hw _ (List.mem_of_getElem? (i := 88) rfl))) (mvT hZ (hw _ (List.mem_of_getElem? (i := 89) rfl))) (mvT hZ (hw _ (List.mem_of_getElem? (i := 90) rfl))) (mvT hZ (hw _ (List.mem_of_getElem? (i := 91) rfl))) (mvT hZ (hw _ (List.mem_of_getElem? (i := 81) rfl))) (by decide) (backOf (W := 0) (rm13a l Z a0 hw [] b7 (0 : Int32) b1 T7.heap n0 Zq9 P7_1 hp9_hp) hZ (hw _ (List.mem_of_getElem? (i := 92) rfl)) (hw _ (List.mem_of_getElem? (i := 45) rfl)) (by decide) (by decide)) q9a q9b q9c (g := (mkF m 98 #[.val (.int i1), .val (.int i2), .val (.int i3), .val (.int i4), .val (.int ((i1 &&& (2147483647 : Int32)) % (7 : Int32))), .val (.int ((i2 &&& (2147483647 : Int32)) % (7 : Int32))), .val (.int ((i3 &&& (2147483647 : Int32)) % (7 : Int32))), .val (.int ((i4 &&& (2147483647 : Int32)) % (7 : Int32))), .val (.ref b1), .val (.ref b3), .val (.ref b5), .val (.ref b7), .unset, .unset] [(.int (0 : Int32)), (.ref b7)])) rfl (by rw [hml]; rfl) (Steps.refl _) (argsL := [(.int (0 : Int32))]) (rest := []) (lenOf pd_8 rfl) rfl (by show 2 * 0 + _ ≤ _; exact Nat.le_of_eq rfl) (hb hby at_98) (fun _ _ => ⟨rfl, e8, (by decide : 4 + 0 ≤ _), (by decide : 8 + 0 ≤ _)⟩)
  dsimp only [Pt.U, Pt.locs, Pt.cells, Pt.slots] at X9 l9 y9 z9 st9 hQ9
  subst l9 y9 z9
  obtain ⟨rfl, rfl, e9⟩ := hQ9
  try rw [List.append_nil] at X9
  refine own_jump (f' := (mkF m 103 #[.val (.int i1), .val (.int i2), .val (.int i3), .val (.int i4), .val (.int ((i1 &&& (2147483647 : Int32)) % (7 : Int32))), .val (.int ((i2 &&& (2147483647 : Int32)) % (7 : Int32))), .val (.int ((i3 &&& (2147483647 : Int32)) % (7 : Int32))), .val (.int ((i4 &&& (2147483647 : Int32)) % (7 : Int32))), .val (.ref b1), .val (.ref b3), .val (.ref b5), .val (.ref b7), .unset, .unset] [(.ref b1)])) st9 ?_
  obtain ⟨T10, X10, e10, st10⟩ := castY X9 hx hZ hown (hw _ (List.mem_of_getElem? (i := 1) rfl)) e9 (Ins.self (((((P2_0.ext E3).keep K4).ext E5).keep K6).keep K7)) (g := (mkF m 103 #[.val (.int i1), .val (.int i2), .val (.int i3), .val (.int i4), .val (.int ((i1 &&& (2147483647 : Int32)) % (7 : Int32))), .val (.int ((i2 &&& (2147483647 : Int32)) % (7 : Int32))), .val (.int ((i3 &&& (2147483647 : Int32)) % (7 : Int32))), .val (.int ((i4 &&& (2147483647 : Int32)) % (7 : Int32))), .val (.ref b1), .val (.ref b3), .val (.ref b5), .val (.ref b7), .unset, .unset] [(.ref b1)])) rfl rfl (hb hby at_103)
  refine own_step (f' := (mkF m 106 #[.val (.int i1), .val (.int i2), .val (.int i3), .val (.int i4), .val (.int ((i1 &&& (2147483647 : Int32)) % (7 : Int32))), .val (.int ((i2 &&& (2147483647 : Int32)) % (7 : Int32))), .val (.int ((i3 &&& (2147483647 : Int32)) % (7 : Int32))), .val (.int ((i4 &&& (2147483647 : Int32)) % (7 : Int32))), .val (.ref b1), .val (.ref b3), .val (.ref b5), .val (.ref b7), .unset, .unset] [(.ref b1)])) st10 ?_
  refine own_step (f' := (mkF m 108 #[.val (.int i1), .val (.int i2), .val (.int i3), .val (.int i4), .val (.int ((i1 &&& (2147483647 : Int32)) % (7 : Int32))), .val (.int ((i2 &&& (2147483647 : Int32)) % (7 : Int32))), .val (.int ((i3 &&& (2147483647 : Int32)) % (7 : Int32))), .val (.int ((i4 &&& (2147483647 : Int32)) % (7 : Int32))), .val (.ref b1), .val (.ref b3), .val (.ref b5), .val (.ref b7), .val (.ref b1), .unset] [])) (fun _ k => XS.astore X10.here hx rfl (hb hby at_106) rfl rfl (l' := #[.val (.int i1), .val (.int i2), .val (.int i3), .val (.int i4), .val (.int ((i1 &&& (2147483647 : Int32)) % (7 : Int32))), .val (.int ((i2 &&& (2147483647 : Int32)) % (7 : Int32))), .val (.int ((i3 &&& (2147483647 : Int32)) % (7 : Int32))), .val (.int ((i4 &&& (2147483647 : Int32)) % (7 : Int32))), .val (.ref b1), .val (.ref b3), .val (.ref b5), .val (.ref b7), .val (.ref b1), .unset]) rfl k) ?_
  refine own_step (f' := (mkF m 110 #[.val (.int i1), .val (.int i2), .val (.int i3), .val (.int i4), .val (.int ((i1 &&& (2147483647 : Int32)) % (7 : Int32))), .val (.int ((i2 &&& (2147483647 : Int32)) % (7 : Int32))), .val (.int ((i3 &&& (2147483647 : Int32)) % (7 : Int32))), .val (.int ((i4 &&& (2147483647 : Int32)) % (7 : Int32))), .val (.ref b1), .val (.ref b3), .val (.ref b5), .val (.ref b7), .val (.ref b1), .unset] [(.ref b7)])) (fun _ k => XS.aload X10.here hx rfl (hb hby at_108) rfl rfl k) ?_
  refine own_step (f' := (mkF m 111 #[.val (.int i1), .val (.int i2), .val (.int i3), .val (.int i4), .val (.int ((i1 &&& (2147483647 : Int32)) % (7 : Int32))), .val (.int ((i2 &&& (2147483647 : Int32)) % (7 : Int32))), .val (.int ((i3 &&& (2147483647 : Int32)) % (7 : Int32))), .val (.int ((i4 &&& (2147483647 : Int32)) % (7 : Int32))), .val (.ref b1), .val (.ref b3), .val (.ref b5), .val (.ref b7), .val (.ref b1), .unset] [(.int (1 : Int32)), (.ref b7)])) (fun _ k => XS.iconst X10.here hx rfl (hb hby at_110) k) ?_
  have hp11_hp : (1 : Int32) = (1 : Int32) := rfl
  have Zq11 : n0 ≤ T7.heap.size := (Nat.le_trans (Nat.le_trans (Nat.le_trans (Nat.le_trans (Nat.le_trans (Nat.le_trans (Nat.le_trans Z0 E1.1) K2.1) E3.1) K4.1) E5.1) K6.1) K7.1)
  obtain ⟨cq11, kq11, q11a, q11b, q11c⟩ := isOf hZ e10 P7_0
  obtain ⟨_, _, ⟨T11, L11, k11, n11⟩, -, X11, ⟨Lc11, hQ11, l11, y11, z11⟩, st11⟩ := X10.interfaceBack hx (xi := (⟨"java/util/List", "get", "(I)Ljava/lang/Object;"⟩ : MethodName)) (y := (⟨"java/util/ImmutableCollections$List12", "get", "(I)Ljava/lang/Object;"⟩ : MethodName)) hown (mvT hZ (hw _ (List.mem_of_getElem? (i := 85) rfl))) (mvT hZ (hw _ (List.mem_of_getElem? (i := 86) rfl))) (mvT hZ (hw _ (List.mem_of_getElem? (i := 87) rfl))) (mvT hZ (hw _ (List.mem_of_getElem? (i := 88) rfl))) (mvT hZ (hw _ (List.mem_of_getElem? (i := 89) rfl))) (mvT hZ (hw _ (List.mem_of_getElem? (i := 90) rfl))) (mvT hZ (hw _ (List.mem_of_getElem? (i := 91) rfl))) (mvT hZ (hw _ (List.mem_of_getElem? (i := 81) rfl))) (by decide) (backOf (W := 0) (rm13b l Z a0 hw [] b7 (1 : Int32) b3 w1 T7.heap n0 Zq11 P7_2 (own_staKeep (own_staKeep ((own_staKeep ((own_staKeep (S_EMPTY.ext E1) K2 (allS (own_exaNS A1) all0)).ext E3) K4 (allS (own_exaNS A3) all0)).ext E5) K6 (allS (own_exaNS A5) all0)) K7 all0) (Ne.symm ne_w1_b3) hp11_hp) hZ (hw _ (List.mem_of_getElem? (i := 92) rfl)) (hw _ (List.mem_of_getElem? (i := 45) rfl)) (by decide) (by decide)) q11a q11b q11c (g := (mkF m 111 #[.val (.int i1), .val (.int i2), .val (.int i3), .val (.int i4), .val (.int ((i1 &&& (2147483647 : Int32)) % (7 : Int32))), .val (.int ((i2 &&& (2147483647 : Int32)) % (7 : Int32))), .val (.int ((i3 &&& (2147483647 : Int32)) % (7 : Int32))), .val (.int ((i4 &&& (2147483647 : Int32)) % (7 : Int32))), .val (.ref b1), .val (.ref b3), .val (.ref b5), .val (.ref b7), .val (.ref b1), .unset] [(.int (1 : Int32)), (.ref b7)])) rfl (by rw [hml]; rfl) (Steps.refl _) (argsL := [(.int (1 : Int32))]) (rest := []) (lenOf pd_8 rfl) rfl (by show 2 * 0 + _ ≤ _; exact Nat.le_of_eq rfl) (hb hby at_111) (fun _ _ => ⟨rfl, e10, (by decide : 4 + 0 ≤ _), (by decide : 8 + 0 ≤ _)⟩)
  dsimp only [Pt.U, Pt.locs, Pt.cells, Pt.slots] at X11 l11 y11 z11 st11 hQ11
  subst l11 y11 z11
  obtain ⟨rfl, rfl, e11⟩ := hQ11
  try rw [List.append_nil] at X11
  refine own_jump (f' := (mkF m 116 #[.val (.int i1), .val (.int i2), .val (.int i3), .val (.int i4), .val (.int ((i1 &&& (2147483647 : Int32)) % (7 : Int32))), .val (.int ((i2 &&& (2147483647 : Int32)) % (7 : Int32))), .val (.int ((i3 &&& (2147483647 : Int32)) % (7 : Int32))), .val (.int ((i4 &&& (2147483647 : Int32)) % (7 : Int32))), .val (.ref b1), .val (.ref b3), .val (.ref b5), .val (.ref b7), .val (.ref b1), .unset] [(.ref b3)])) st11 ?_
  obtain ⟨T12, X12, e12, st12⟩ := castY X11 hx hZ hown (hw _ (List.mem_of_getElem? (i := 1) rfl)) e11 (Ins.self (((P4_0.ext E5).keep K6).keep K7)) (g := (mkF m 116 #[.val (.int i1), .val (.int i2), .val (.int i3), .val (.int i4), .val (.int ((i1 &&& (2147483647 : Int32)) % (7 : Int32))), .val (.int ((i2 &&& (2147483647 : Int32)) % (7 : Int32))), .val (.int ((i3 &&& (2147483647 : Int32)) % (7 : Int32))), .val (.int ((i4 &&& (2147483647 : Int32)) % (7 : Int32))), .val (.ref b1), .val (.ref b3), .val (.ref b5), .val (.ref b7), .val (.ref b1), .unset] [(.ref b3)])) rfl rfl (hb hby at_116)
  refine own_step (f' := (mkF m 119 #[.val (.int i1), .val (.int i2), .val (.int i3), .val (.int i4), .val (.int ((i1 &&& (2147483647 : Int32)) % (7 : Int32))), .val (.int ((i2 &&& (2147483647 : Int32)) % (7 : Int32))), .val (.int ((i3 &&& (2147483647 : Int32)) % (7 : Int32))), .val (.int ((i4 &&& (2147483647 : Int32)) % (7 : Int32))), .val (.ref b1), .val (.ref b3), .val (.ref b5), .val (.ref b7), .val (.ref b1), .unset] [(.ref b3)])) st12 ?_
  refine own_step (f' := (mkF m 121 #[.val (.int i1), .val (.int i2), .val (.int i3), .val (.int i4), .val (.int ((i1 &&& (2147483647 : Int32)) % (7 : Int32))), .val (.int ((i2 &&& (2147483647 : Int32)) % (7 : Int32))), .val (.int ((i3 &&& (2147483647 : Int32)) % (7 : Int32))), .val (.int ((i4 &&& (2147483647 : Int32)) % (7 : Int32))), .val (.ref b1), .val (.ref b3), .val (.ref b5), .val (.ref b7), .val (.ref b1), .val (.ref b3)] [])) (fun _ k => XS.astore X12.here hx rfl (hb hby at_119) rfl rfl (l' := #[.val (.int i1), .val (.int i2), .val (.int i3), .val (.int i4), .val (.int ((i1 &&& (2147483647 : Int32)) % (7 : Int32))), .val (.int ((i2 &&& (2147483647 : Int32)) % (7 : Int32))), .val (.int ((i3 &&& (2147483647 : Int32)) % (7 : Int32))), .val (.int ((i4 &&& (2147483647 : Int32)) % (7 : Int32))), .val (.ref b1), .val (.ref b3), .val (.ref b5), .val (.ref b7), .val (.ref b1), .val (.ref b3)]) rfl k) ?_
  refine own_step (f' := (mkF m 123 #[.val (.int i1), .val (.int i2), .val (.int i3), .val (.int i4), .val (.int ((i1 &&& (2147483647 : Int32)) % (7 : Int32))), .val (.int ((i2 &&& (2147483647 : Int32)) % (7 : Int32))), .val (.int ((i3 &&& (2147483647 : Int32)) % (7 : Int32))), .val (.int ((i4 &&& (2147483647 : Int32)) % (7 : Int32))), .val (.ref b1), .val (.ref b3), .val (.ref b5), .val (.ref b7), .val (.ref b1), .val (.ref b3)] [(.ref b1)])) (fun _ k => XS.aload X12.here hx rfl (hb hby at_121) rfl rfl k) ?_
  refine own_step (f' := (mkF m 125 #[.val (.int i1), .val (.int i2), .val (.int i3), .val (.int i4), .val (.int ((i1 &&& (2147483647 : Int32)) % (7 : Int32))), .val (.int ((i2 &&& (2147483647 : Int32)) % (7 : Int32))), .val (.int ((i3 &&& (2147483647 : Int32)) % (7 : Int32))), .val (.int ((i4 &&& (2147483647 : Int32)) % (7 : Int32))), .val (.ref b1), .val (.ref b3), .val (.ref b5), .val (.ref b7), .val (.ref b1), .val (.ref b3)] [(.ref b1), (.ref b1)])) (fun _ k => XS.aload X12.here hx rfl (hb hby at_123) rfl rfl k) ?_
  refine own_step (f' := (mkF m 128 #[.val (.int i1), .val (.int i2), .val (.int i3), .val (.int i4), .val (.int ((i1 &&& (2147483647 : Int32)) % (7 : Int32))), .val (.int ((i2 &&& (2147483647 : Int32)) % (7 : Int32))), .val (.int ((i3 &&& (2147483647 : Int32)) % (7 : Int32))), .val (.int ((i4 &&& (2147483647 : Int32)) % (7 : Int32))), .val (.ref b1), .val (.ref b3), .val (.ref b5), .val (.ref b7), .val (.ref b1), .val (.ref b3)] [])) (fun _ k => Jvm.RoadKit.acmp (g := (mkF m 125 #[.val (.int i1), .val (.int i2), .val (.int i3), .val (.int i4), .val (.int ((i1 &&& (2147483647 : Int32)) % (7 : Int32))), .val (.int ((i2 &&& (2147483647 : Int32)) % (7 : Int32))), .val (.int ((i3 &&& (2147483647 : Int32)) % (7 : Int32))), .val (.int ((i4 &&& (2147483647 : Int32)) % (7 : Int32))), .val (.ref b1), .val (.ref b3), .val (.ref b5), .val (.ref b7), .val (.ref b1), .val (.ref b3)] [(.ref b1), (.ref b1)])) X12 hx rfl rfl rfl (pc0 := 125) (pc' := 128) (same := true) rfl (hb hby at_125) rfl (decide_eq_true rfl) (by decide) (by decide) k) ?_
  refine own_step (f' := (mkF m 130 #[.val (.int i1), .val (.int i2), .val (.int i3), .val (.int i4), .val (.int ((i1 &&& (2147483647 : Int32)) % (7 : Int32))), .val (.int ((i2 &&& (2147483647 : Int32)) % (7 : Int32))), .val (.int ((i3 &&& (2147483647 : Int32)) % (7 : Int32))), .val (.int ((i4 &&& (2147483647 : Int32)) % (7 : Int32))), .val (.ref b1), .val (.ref b3), .val (.ref b5), .val (.ref b7), .val (.ref b1), .val (.ref b3)] [(.ref b3)])) (fun _ k => XS.aload X12.here hx rfl (hb hby at_128) rfl rfl k) ?_
  refine own_step (f' := (mkF m 132 #[.val (.int i1), .val (.int i2), .val (.int i3), .val (.int i4), .val (.int ((i1 &&& (2147483647 : Int32)) % (7 : Int32))), .val (.int ((i2 &&& (2147483647 : Int32)) % (7 : Int32))), .val (.int ((i3 &&& (2147483647 : Int32)) % (7 : Int32))), .val (.int ((i4 &&& (2147483647 : Int32)) % (7 : Int32))), .val (.ref b1), .val (.ref b3), .val (.ref b5), .val (.ref b7), .val (.ref b1), .val (.ref b3)] [(.ref b3), (.ref b3)])) (fun _ k => XS.aload X12.here hx rfl (hb hby at_130) rfl rfl k) ?_
  refine own_step (f' := (mkF m 137 #[.val (.int i1), .val (.int i2), .val (.int i3), .val (.int i4), .val (.int ((i1 &&& (2147483647 : Int32)) % (7 : Int32))), .val (.int ((i2 &&& (2147483647 : Int32)) % (7 : Int32))), .val (.int ((i3 &&& (2147483647 : Int32)) % (7 : Int32))), .val (.int ((i4 &&& (2147483647 : Int32)) % (7 : Int32))), .val (.ref b1), .val (.ref b3), .val (.ref b5), .val (.ref b7), .val (.ref b1), .val (.ref b3)] [])) (fun _ k => Jvm.RoadKit.acmp (g := (mkF m 132 #[.val (.int i1), .val (.int i2), .val (.int i3), .val (.int i4), .val (.int ((i1 &&& (2147483647 : Int32)) % (7 : Int32))), .val (.int ((i2 &&& (2147483647 : Int32)) % (7 : Int32))), .val (.int ((i3 &&& (2147483647 : Int32)) % (7 : Int32))), .val (.int ((i4 &&& (2147483647 : Int32)) % (7 : Int32))), .val (.ref b1), .val (.ref b3), .val (.ref b5), .val (.ref b7), .val (.ref b1), .val (.ref b3)] [(.ref b3), (.ref b3)])) X12 hx rfl rfl rfl (pc0 := 132) (pc' := 137) (same := true) rfl (hb hby at_132) rfl (decide_eq_true rfl) (by decide) (by decide) k) ?_
  refine own_step (f' := (mkF m 139 #[.val (.int i1), .val (.int i2), .val (.int i3), .val (.int i4), .val (.int ((i1 &&& (2147483647 : Int32)) % (7 : Int32))), .val (.int ((i2 &&& (2147483647 : Int32)) % (7 : Int32))), .val (.int ((i3 &&& (2147483647 : Int32)) % (7 : Int32))), .val (.int ((i4 &&& (2147483647 : Int32)) % (7 : Int32))), .val (.ref b1), .val (.ref b3), .val (.ref b5), .val (.ref b7), .val (.ref b1), .val (.ref b3)] [(.ref b1)])) (fun _ k => XS.aload X12.here hx rfl (hb hby at_137) rfl rfl k) ?_
  have Zq13 : n0 ≤ T7.heap.size := (Nat.le_trans (Nat.le_trans (Nat.le_trans (Nat.le_trans (Nat.le_trans (Nat.le_trans (Nat.le_trans Z0 E1.1) K2.1) E3.1) K4.1) E5.1) K6.1) K7.1)
  obtain ⟨cq13, kq13, q13a, q13b, q13c⟩ := isOf hZ e12 (((((P2_0.ext E3).keep K4).ext E5).keep K6).keep K7)
  obtain ⟨_, _, ⟨T13, L13, k13, n13⟩, -, X13, ⟨Lc13, hQ13, l13, y13, z13⟩, st13⟩ := X12.virtualBack hx (y := (⟨"com/example/kostyashki/kostyashki/tiles/Tile", "low", "()I"⟩ : MethodName)) (z := (⟨"com/example/kostyashki/kostyashki/tiles/Tile", "low", "()I"⟩ : MethodName)) hown (mvT hZ (hw _ (List.mem_of_getElem? (i := 94) rfl))) (mvT hZ (hw _ (List.mem_of_getElem? (i := 95) rfl))) (notFace_of_selects (args := #[]) (mvT hZ (hw _ (List.mem_of_getElem? (i := 97) rfl)))) (mvT hZ (hw _ (List.mem_of_getElem? (i := 97) rfl))) (mvT hZ (hw _ (List.mem_of_getElem? (i := 96) rfl))) (by decide) (backOf (W := 0) (rm14 l Z a0 hw [] b1 (own_lo ((i1 &&& (2147483647 : Int32)) % (7 : Int32)) ((i2 &&& (2147483647 : Int32)) % (7 : Int32))) T7.heap n0 Zq13 (((((P2_1.ext E3).keep K4 (ninS ne_b1_b3 nin0)).ext E5).keep K6 (ninS ne_b1_b5 nin0)).keep K7 nin0)) hZ (hw _ (List.mem_of_getElem? (i := 98) rfl)) (hw _ (List.mem_of_getElem? (i := 3) rfl)) (by decide) (by decide)) q13a q13c (g := (mkF m 139 #[.val (.int i1), .val (.int i2), .val (.int i3), .val (.int i4), .val (.int ((i1 &&& (2147483647 : Int32)) % (7 : Int32))), .val (.int ((i2 &&& (2147483647 : Int32)) % (7 : Int32))), .val (.int ((i3 &&& (2147483647 : Int32)) % (7 : Int32))), .val (.int ((i4 &&& (2147483647 : Int32)) % (7 : Int32))), .val (.ref b1), .val (.ref b3), .val (.ref b5), .val (.ref b7), .val (.ref b1), .val (.ref b3)] [(.ref b1)])) rfl (by rw [hml]; rfl) (Steps.refl _) (argsL := []) (rest := []) (lenOf pd_7 rfl) rfl (by show 2 * 0 + _ ≤ _; exact Nat.le_of_eq rfl) (hb hby at_139) (fun _ _ => ⟨rfl, e12, (by decide : 4 + 0 ≤ _), (by decide : 8 + 0 ≤ _)⟩)
  dsimp only [Pt.U, Pt.locs, Pt.cells, Pt.slots] at X13 l13 y13 z13 st13 hQ13
  subst l13 y13 z13
  obtain ⟨rfl, rfl, e13⟩ := hQ13
  try rw [List.append_nil] at X13
  refine own_jump (f' := (mkF m 142 #[.val (.int i1), .val (.int i2), .val (.int i3), .val (.int i4), .val (.int ((i1 &&& (2147483647 : Int32)) % (7 : Int32))), .val (.int ((i2 &&& (2147483647 : Int32)) % (7 : Int32))), .val (.int ((i3 &&& (2147483647 : Int32)) % (7 : Int32))), .val (.int ((i4 &&& (2147483647 : Int32)) % (7 : Int32))), .val (.ref b1), .val (.ref b3), .val (.ref b5), .val (.ref b7), .val (.ref b1), .val (.ref b3)] [(.int (own_lo ((i1 &&& (2147483647 : Int32)) % (7 : Int32)) ((i2 &&& (2147483647 : Int32)) % (7 : Int32))))])) st13 ?_
  refine own_step (f' := (mkF m 144 #[.val (.int i1), .val (.int i2), .val (.int i3), .val (.int i4), .val (.int ((i1 &&& (2147483647 : Int32)) % (7 : Int32))), .val (.int ((i2 &&& (2147483647 : Int32)) % (7 : Int32))), .val (.int ((i3 &&& (2147483647 : Int32)) % (7 : Int32))), .val (.int ((i4 &&& (2147483647 : Int32)) % (7 : Int32))), .val (.ref b1), .val (.ref b3), .val (.ref b5), .val (.ref b7), .val (.ref b1), .val (.ref b3)] [(.int ((i1 &&& (2147483647 : Int32)) % (7 : Int32))), (.int (own_lo ((i1 &&& (2147483647 : Int32)) % (7 : Int32)) ((i2 &&& (2147483647 : Int32)) % (7 : Int32))))])) (fun _ k => XS.iload X13.here hx rfl (hb hby at_142) rfl k) ?_
  refine own_step (f' := (mkF m 146 #[.val (.int i1), .val (.int i2), .val (.int i3), .val (.int i4), .val (.int ((i1 &&& (2147483647 : Int32)) % (7 : Int32))), .val (.int ((i2 &&& (2147483647 : Int32)) % (7 : Int32))), .val (.int ((i3 &&& (2147483647 : Int32)) % (7 : Int32))), .val (.int ((i4 &&& (2147483647 : Int32)) % (7 : Int32))), .val (.ref b1), .val (.ref b3), .val (.ref b5), .val (.ref b7), .val (.ref b1), .val (.ref b3)] [(.int ((i2 &&& (2147483647 : Int32)) % (7 : Int32))), (.int ((i1 &&& (2147483647 : Int32)) % (7 : Int32))), (.int (own_lo ((i1 &&& (2147483647 : Int32)) % (7 : Int32)) ((i2 &&& (2147483647 : Int32)) % (7 : Int32))))])) (fun _ k => XS.iload X13.here hx rfl (hb hby at_144) rfl k) ?_
  have Zq14 : n0 ≤ T7.heap.size := (Nat.le_trans (Nat.le_trans (Nat.le_trans (Nat.le_trans (Nat.le_trans (Nat.le_trans (Nat.le_trans Z0 E1.1) K2.1) E3.1) K4.1) E5.1) K6.1) K7.1)
  obtain ⟨_, _, ⟨T14, L14, k14, n14⟩, -, X14, ⟨Lc14, hQ14, l14, y14, z14⟩, st14⟩ := Jvm.LawKit.callS X13 hx (y := (⟨"java/lang/Math", "min", "(II)I"⟩ : MethodName)) hown (mvT hZ (hw _ (List.mem_of_getElem? (i := 99) rfl))) (mvT hZ (hw _ (List.mem_of_getElem? (i := 100) rfl))) (mvT hZ (hw _ (List.mem_of_getElem? (i := 101) rfl))) (mvT hZ (hw _ (List.mem_of_getElem? (i := 102) rfl))) (by decide) (backOf (W := 1) (rm15 l Z a0 hw [] ((i1 &&& (2147483647 : Int32)) % (7 : Int32)) ((i2 &&& (2147483647 : Int32)) % (7 : Int32)) T7.heap n0 Zq14 ) hZ (hw _ (List.mem_of_getElem? (i := 102) rfl)) (hw _ (List.mem_of_getElem? (i := 101) rfl)) (by decide) (by decide)) (g := (mkF m 146 #[.val (.int i1), .val (.int i2), .val (.int i3), .val (.int i4), .val (.int ((i1 &&& (2147483647 : Int32)) % (7 : Int32))), .val (.int ((i2 &&& (2147483647 : Int32)) % (7 : Int32))), .val (.int ((i3 &&& (2147483647 : Int32)) % (7 : Int32))), .val (.int ((i4 &&& (2147483647 : Int32)) % (7 : Int32))), .val (.ref b1), .val (.ref b3), .val (.ref b5), .val (.ref b7), .val (.ref b1), .val (.ref b3)] [(.int ((i2 &&& (2147483647 : Int32)) % (7 : Int32))), (.int ((i1 &&& (2147483647 : Int32)) % (7 : Int32))), (.int (own_lo ((i1 &&& (2147483647 : Int32)) % (7 : Int32)) ((i2 &&& (2147483647 : Int32)) % (7 : Int32))))])) rfl (by rw [hml]; rfl) (argsL := [(.int ((i1 &&& (2147483647 : Int32)) % (7 : Int32))), (.int ((i2 &&& (2147483647 : Int32)) % (7 : Int32)))]) (rest := [(.int (own_lo ((i1 &&& (2147483647 : Int32)) % (7 : Int32)) ((i2 &&& (2147483647 : Int32)) % (7 : Int32))))]) (lenOf pd_9 rfl) rfl (by show 2 * 0 + _ ≤ _; exact Nat.le_of_eq rfl) (hb hby at_146) (fun _ _ => ⟨rfl, e13, (by decide : 4 + 0 ≤ _), (by decide : 8 + 0 ≤ _)⟩)
  dsimp only [Pt.U, Pt.locs, Pt.cells, Pt.slots] at X14 l14 y14 z14 st14 hQ14
  subst l14 y14 z14
  obtain ⟨rfl, rfl, e14⟩ := hQ14
  try rw [List.append_nil] at X14
  refine own_step (f' := (mkF m 149 #[.val (.int i1), .val (.int i2), .val (.int i3), .val (.int i4), .val (.int ((i1 &&& (2147483647 : Int32)) % (7 : Int32))), .val (.int ((i2 &&& (2147483647 : Int32)) % (7 : Int32))), .val (.int ((i3 &&& (2147483647 : Int32)) % (7 : Int32))), .val (.int ((i4 &&& (2147483647 : Int32)) % (7 : Int32))), .val (.ref b1), .val (.ref b3), .val (.ref b5), .val (.ref b7), .val (.ref b1), .val (.ref b3)] [(.int (own_min ((i1 &&& (2147483647 : Int32)) % (7 : Int32)) ((i2 &&& (2147483647 : Int32)) % (7 : Int32)))), (.int (own_lo ((i1 &&& (2147483647 : Int32)) % (7 : Int32)) ((i2 &&& (2147483647 : Int32)) % (7 : Int32))))])) st14 ?_
  have hf149_15 : (own_lo ((i1 &&& (2147483647 : Int32)) % (7 : Int32)) ((i2 &&& (2147483647 : Int32)) % (7 : Int32))) = (own_min ((i1 &&& (2147483647 : Int32)) % (7 : Int32)) ((i2 &&& (2147483647 : Int32)) % (7 : Int32))) := rfl
  refine own_step (f' := (mkF m 152 #[.val (.int i1), .val (.int i2), .val (.int i3), .val (.int i4), .val (.int ((i1 &&& (2147483647 : Int32)) % (7 : Int32))), .val (.int ((i2 &&& (2147483647 : Int32)) % (7 : Int32))), .val (.int ((i3 &&& (2147483647 : Int32)) % (7 : Int32))), .val (.int ((i4 &&& (2147483647 : Int32)) % (7 : Int32))), .val (.ref b1), .val (.ref b3), .val (.ref b5), .val (.ref b7), .val (.ref b1), .val (.ref b3)] [])) (fun _ k => XS.icmpNo X14.here hx rfl (hb hby at_149) rfl (teq hf149_15).2 k) ?_
  refine own_step (f' := (mkF m 154 #[.val (.int i1), .val (.int i2), .val (.int i3), .val (.int i4), .val (.int ((i1 &&& (2147483647 : Int32)) % (7 : Int32))), .val (.int ((i2 &&& (2147483647 : Int32)) % (7 : Int32))), .val (.int ((i3 &&& (2147483647 : Int32)) % (7 : Int32))), .val (.int ((i4 &&& (2147483647 : Int32)) % (7 : Int32))), .val (.ref b1), .val (.ref b3), .val (.ref b5), .val (.ref b7), .val (.ref b1), .val (.ref b3)] [(.ref b1)])) (fun _ k => XS.aload X14.here hx rfl (hb hby at_152) rfl rfl k) ?_
  have Zq16 : n0 ≤ T7.heap.size := (Nat.le_trans (Nat.le_trans (Nat.le_trans (Nat.le_trans (Nat.le_trans (Nat.le_trans (Nat.le_trans Z0 E1.1) K2.1) E3.1) K4.1) E5.1) K6.1) K7.1)
  obtain ⟨cq16, kq16, q16a, q16b, q16c⟩ := isOf hZ e14 (((((P2_0.ext E3).keep K4).ext E5).keep K6).keep K7)
  obtain ⟨_, _, ⟨T16, L16, k16, n16⟩, -, X16, ⟨Lc16, hQ16, l16, y16, z16⟩, st16⟩ := X14.virtualBack hx (y := (⟨"com/example/kostyashki/kostyashki/tiles/Tile", "high", "()I"⟩ : MethodName)) (z := (⟨"com/example/kostyashki/kostyashki/tiles/Tile", "high", "()I"⟩ : MethodName)) hown (mvT hZ (hw _ (List.mem_of_getElem? (i := 103) rfl))) (mvT hZ (hw _ (List.mem_of_getElem? (i := 104) rfl))) (notFace_of_selects (args := #[]) (mvT hZ (hw _ (List.mem_of_getElem? (i := 106) rfl)))) (mvT hZ (hw _ (List.mem_of_getElem? (i := 106) rfl))) (mvT hZ (hw _ (List.mem_of_getElem? (i := 105) rfl))) (by decide) (backOf (W := 0) (rm16 l Z a0 hw [] b1 (own_hi ((i1 &&& (2147483647 : Int32)) % (7 : Int32)) ((i2 &&& (2147483647 : Int32)) % (7 : Int32))) T7.heap n0 Zq16 (((((P2_2.ext E3).keep K4 (ninS ne_b1_b3 nin0)).ext E5).keep K6 (ninS ne_b1_b5 nin0)).keep K7 nin0)) hZ (hw _ (List.mem_of_getElem? (i := 107) rfl)) (hw _ (List.mem_of_getElem? (i := 3) rfl)) (by decide) (by decide)) q16a q16c (g := (mkF m 154 #[.val (.int i1), .val (.int i2), .val (.int i3), .val (.int i4), .val (.int ((i1 &&& (2147483647 : Int32)) % (7 : Int32))), .val (.int ((i2 &&& (2147483647 : Int32)) % (7 : Int32))), .val (.int ((i3 &&& (2147483647 : Int32)) % (7 : Int32))), .val (.int ((i4 &&& (2147483647 : Int32)) % (7 : Int32))), .val (.ref b1), .val (.ref b3), .val (.ref b5), .val (.ref b7), .val (.ref b1), .val (.ref b3)] [(.ref b1)])) rfl (by rw [hml]; rfl) (Steps.refl _) (argsL := []) (rest := []) (lenOf pd_7 rfl) rfl (by show 2 * 0 + _ ≤ _; exact Nat.le_of_eq rfl) (hb hby at_154) (fun _ _ => ⟨rfl, e14, (by decide : 4 + 0 ≤ _), (by decide : 8 + 0 ≤ _)⟩)
  dsimp only [Pt.U, Pt.locs, Pt.cells, Pt.slots] at X16 l16 y16 z16 st16 hQ16
  subst l16 y16 z16
  obtain ⟨rfl, rfl, e16⟩ := hQ16
  try rw [List.append_nil] at X16
  refine own_jump (f' := (mkF m 157 #[.val (.int i1), .val (.int i2), .val (.int i3), .val (.int i4), .val (.int ((i1 &&& (2147483647 : Int32)) % (7 : Int32))), .val (.int ((i2 &&& (2147483647 : Int32)) % (7 : Int32))), .val (.int ((i3 &&& (2147483647 : Int32)) % (7 : Int32))), .val (.int ((i4 &&& (2147483647 : Int32)) % (7 : Int32))), .val (.ref b1), .val (.ref b3), .val (.ref b5), .val (.ref b7), .val (.ref b1), .val (.ref b3)] [(.int (own_hi ((i1 &&& (2147483647 : Int32)) % (7 : Int32)) ((i2 &&& (2147483647 : Int32)) % (7 : Int32))))])) st16 ?_
  refine own_step (f' := (mkF m 159 #[.val (.int i1), .val (.int i2), .val (.int i3), .val (.int i4), .val (.int ((i1 &&& (2147483647 : Int32)) % (7 : Int32))), .val (.int ((i2 &&& (2147483647 : Int32)) % (7 : Int32))), .val (.int ((i3 &&& (2147483647 : Int32)) % (7 : Int32))), .val (.int ((i4 &&& (2147483647 : Int32)) % (7 : Int32))), .val (.ref b1), .val (.ref b3), .val (.ref b5), .val (.ref b7), .val (.ref b1), .val (.ref b3)] [(.int ((i1 &&& (2147483647 : Int32)) % (7 : Int32))), (.int (own_hi ((i1 &&& (2147483647 : Int32)) % (7 : Int32)) ((i2 &&& (2147483647 : Int32)) % (7 : Int32))))])) (fun _ k => XS.iload X16.here hx rfl (hb hby at_157) rfl k) ?_
  refine own_step (f' := (mkF m 161 #[.val (.int i1), .val (.int i2), .val (.int i3), .val (.int i4), .val (.int ((i1 &&& (2147483647 : Int32)) % (7 : Int32))), .val (.int ((i2 &&& (2147483647 : Int32)) % (7 : Int32))), .val (.int ((i3 &&& (2147483647 : Int32)) % (7 : Int32))), .val (.int ((i4 &&& (2147483647 : Int32)) % (7 : Int32))), .val (.ref b1), .val (.ref b3), .val (.ref b5), .val (.ref b7), .val (.ref b1), .val (.ref b3)] [(.int ((i2 &&& (2147483647 : Int32)) % (7 : Int32))), (.int ((i1 &&& (2147483647 : Int32)) % (7 : Int32))), (.int (own_hi ((i1 &&& (2147483647 : Int32)) % (7 : Int32)) ((i2 &&& (2147483647 : Int32)) % (7 : Int32))))])) (fun _ k => XS.iload X16.here hx rfl (hb hby at_159) rfl k) ?_
  have Zq17 : n0 ≤ T7.heap.size := (Nat.le_trans (Nat.le_trans (Nat.le_trans (Nat.le_trans (Nat.le_trans (Nat.le_trans (Nat.le_trans Z0 E1.1) K2.1) E3.1) K4.1) E5.1) K6.1) K7.1)
  obtain ⟨_, _, ⟨T17, L17, k17, n17⟩, -, X17, ⟨Lc17, hQ17, l17, y17, z17⟩, st17⟩ := Jvm.LawKit.callS X16 hx (y := (⟨"java/lang/Math", "max", "(II)I"⟩ : MethodName)) hown (mvT hZ (hw _ (List.mem_of_getElem? (i := 108) rfl))) (mvT hZ (hw _ (List.mem_of_getElem? (i := 109) rfl))) (mvT hZ (hw _ (List.mem_of_getElem? (i := 101) rfl))) (mvT hZ (hw _ (List.mem_of_getElem? (i := 110) rfl))) (by decide) (backOf (W := 1) (rm17 l Z a0 hw [] ((i1 &&& (2147483647 : Int32)) % (7 : Int32)) ((i2 &&& (2147483647 : Int32)) % (7 : Int32)) T7.heap n0 Zq17 ) hZ (hw _ (List.mem_of_getElem? (i := 110) rfl)) (hw _ (List.mem_of_getElem? (i := 101) rfl)) (by decide) (by decide)) (g := (mkF m 161 #[.val (.int i1), .val (.int i2), .val (.int i3), .val (.int i4), .val (.int ((i1 &&& (2147483647 : Int32)) % (7 : Int32))), .val (.int ((i2 &&& (2147483647 : Int32)) % (7 : Int32))), .val (.int ((i3 &&& (2147483647 : Int32)) % (7 : Int32))), .val (.int ((i4 &&& (2147483647 : Int32)) % (7 : Int32))), .val (.ref b1), .val (.ref b3), .val (.ref b5), .val (.ref b7), .val (.ref b1), .val (.ref b3)] [(.int ((i2 &&& (2147483647 : Int32)) % (7 : Int32))), (.int ((i1 &&& (2147483647 : Int32)) % (7 : Int32))), (.int (own_hi ((i1 &&& (2147483647 : Int32)) % (7 : Int32)) ((i2 &&& (2147483647 : Int32)) % (7 : Int32))))])) rfl (by rw [hml]; rfl) (argsL := [(.int ((i1 &&& (2147483647 : Int32)) % (7 : Int32))), (.int ((i2 &&& (2147483647 : Int32)) % (7 : Int32)))]) (rest := [(.int (own_hi ((i1 &&& (2147483647 : Int32)) % (7 : Int32)) ((i2 &&& (2147483647 : Int32)) % (7 : Int32))))]) (lenOf pd_9 rfl) rfl (by show 2 * 0 + _ ≤ _; exact Nat.le_of_eq rfl) (hb hby at_161) (fun _ _ => ⟨rfl, e16, (by decide : 4 + 0 ≤ _), (by decide : 8 + 0 ≤ _)⟩)
  dsimp only [Pt.U, Pt.locs, Pt.cells, Pt.slots] at X17 l17 y17 z17 st17 hQ17
  subst l17 y17 z17
  obtain ⟨rfl, rfl, e17⟩ := hQ17
  try rw [List.append_nil] at X17
  refine own_step (f' := (mkF m 164 #[.val (.int i1), .val (.int i2), .val (.int i3), .val (.int i4), .val (.int ((i1 &&& (2147483647 : Int32)) % (7 : Int32))), .val (.int ((i2 &&& (2147483647 : Int32)) % (7 : Int32))), .val (.int ((i3 &&& (2147483647 : Int32)) % (7 : Int32))), .val (.int ((i4 &&& (2147483647 : Int32)) % (7 : Int32))), .val (.ref b1), .val (.ref b3), .val (.ref b5), .val (.ref b7), .val (.ref b1), .val (.ref b3)] [(.int (own_max ((i1 &&& (2147483647 : Int32)) % (7 : Int32)) ((i2 &&& (2147483647 : Int32)) % (7 : Int32)))), (.int (own_hi ((i1 &&& (2147483647 : Int32)) % (7 : Int32)) ((i2 &&& (2147483647 : Int32)) % (7 : Int32))))])) st17 ?_
  have hf164_18 : (own_hi ((i1 &&& (2147483647 : Int32)) % (7 : Int32)) ((i2 &&& (2147483647 : Int32)) % (7 : Int32))) = (own_max ((i1 &&& (2147483647 : Int32)) % (7 : Int32)) ((i2 &&& (2147483647 : Int32)) % (7 : Int32))) := own_max2 _ _
  refine own_step (f' := (mkF m 167 #[.val (.int i1), .val (.int i2), .val (.int i3), .val (.int i4), .val (.int ((i1 &&& (2147483647 : Int32)) % (7 : Int32))), .val (.int ((i2 &&& (2147483647 : Int32)) % (7 : Int32))), .val (.int ((i3 &&& (2147483647 : Int32)) % (7 : Int32))), .val (.int ((i4 &&& (2147483647 : Int32)) % (7 : Int32))), .val (.ref b1), .val (.ref b3), .val (.ref b5), .val (.ref b7), .val (.ref b1), .val (.ref b3)] [])) (fun _ k => XS.icmpNo X17.here hx rfl (hb hby at_164) rfl (teq hf164_18).2 k) ?_
  refine own_step (f' := (mkF m 169 #[.val (.int i1), .val (.int i2), .val (.int i3), .val (.int i4), .val (.int ((i1 &&& (2147483647 : Int32)) % (7 : Int32))), .val (.int ((i2 &&& (2147483647 : Int32)) % (7 : Int32))), .val (.int ((i3 &&& (2147483647 : Int32)) % (7 : Int32))), .val (.int ((i4 &&& (2147483647 : Int32)) % (7 : Int32))), .val (.ref b1), .val (.ref b3), .val (.ref b5), .val (.ref b7), .val (.ref b1), .val (.ref b3)] [(.ref b3)])) (fun _ k => XS.aload X17.here hx rfl (hb hby at_167) rfl rfl k) ?_
  have Zq19 : n0 ≤ T7.heap.size := (Nat.le_trans (Nat.le_trans (Nat.le_trans (Nat.le_trans (Nat.le_trans (Nat.le_trans (Nat.le_trans Z0 E1.1) K2.1) E3.1) K4.1) E5.1) K6.1) K7.1)
  obtain ⟨cq19, kq19, q19a, q19b, q19c⟩ := isOf hZ e17 (((P4_0.ext E5).keep K6).keep K7)
  obtain ⟨_, _, ⟨T19, L19, k19, n19⟩, -, X19, ⟨Lc19, hQ19, l19, y19, z19⟩, st19⟩ := X17.virtualBack hx (y := (⟨"com/example/kostyashki/kostyashki/tiles/Tile", "low", "()I"⟩ : MethodName)) (z := (⟨"com/example/kostyashki/kostyashki/tiles/Tile", "low", "()I"⟩ : MethodName)) hown (mvT hZ (hw _ (List.mem_of_getElem? (i := 94) rfl))) (mvT hZ (hw _ (List.mem_of_getElem? (i := 95) rfl))) (notFace_of_selects (args := #[]) (mvT hZ (hw _ (List.mem_of_getElem? (i := 97) rfl)))) (mvT hZ (hw _ (List.mem_of_getElem? (i := 97) rfl))) (mvT hZ (hw _ (List.mem_of_getElem? (i := 96) rfl))) (by decide) (backOf (W := 0) (rm14 l Z a0 hw [] b3 (own_lo ((i3 &&& (2147483647 : Int32)) % (7 : Int32)) ((i4 &&& (2147483647 : Int32)) % (7 : Int32))) T7.heap n0 Zq19 (((P4_1.ext E5).keep K6 (ninS ne_b3_b5 nin0)).keep K7 nin0)) hZ (hw _ (List.mem_of_getElem? (i := 98) rfl)) (hw _ (List.mem_of_getElem? (i := 3) rfl)) (by decide) (by decide)) q19a q19c (g := (mkF m 169 #[.val (.int i1), .val (.int i2), .val (.int i3), .val (.int i4), .val (.int ((i1 &&& (2147483647 : Int32)) % (7 : Int32))), .val (.int ((i2 &&& (2147483647 : Int32)) % (7 : Int32))), .val (.int ((i3 &&& (2147483647 : Int32)) % (7 : Int32))), .val (.int ((i4 &&& (2147483647 : Int32)) % (7 : Int32))), .val (.ref b1), .val (.ref b3), .val (.ref b5), .val (.ref b7), .val (.ref b1), .val (.ref b3)] [(.ref b3)])) rfl (by rw [hml]; rfl) (Steps.refl _) (argsL := []) (rest := []) (lenOf pd_7 rfl) rfl (by show 2 * 0 + _ ≤ _; exact Nat.le_of_eq rfl) (hb hby at_169) (fun _ _ => ⟨rfl, e17, (by decide : 4 + 0 ≤ _), (by decide : 8 + 0 ≤ _)⟩)
  dsimp only [Pt.U, Pt.locs, Pt.cells, Pt.slots] at X19 l19 y19 z19 st19 hQ19
  subst l19 y19 z19
  obtain ⟨rfl, rfl, e19⟩ := hQ19
  try rw [List.append_nil] at X19
  refine own_jump (f' := (mkF m 172 #[.val (.int i1), .val (.int i2), .val (.int i3), .val (.int i4), .val (.int ((i1 &&& (2147483647 : Int32)) % (7 : Int32))), .val (.int ((i2 &&& (2147483647 : Int32)) % (7 : Int32))), .val (.int ((i3 &&& (2147483647 : Int32)) % (7 : Int32))), .val (.int ((i4 &&& (2147483647 : Int32)) % (7 : Int32))), .val (.ref b1), .val (.ref b3), .val (.ref b5), .val (.ref b7), .val (.ref b1), .val (.ref b3)] [(.int (own_lo ((i3 &&& (2147483647 : Int32)) % (7 : Int32)) ((i4 &&& (2147483647 : Int32)) % (7 : Int32))))])) st19 ?_
  refine own_step (f' := (mkF m 174 #[.val (.int i1), .val (.int i2), .val (.int i3), .val (.int i4), .val (.int ((i1 &&& (2147483647 : Int32)) % (7 : Int32))), .val (.int ((i2 &&& (2147483647 : Int32)) % (7 : Int32))), .val (.int ((i3 &&& (2147483647 : Int32)) % (7 : Int32))), .val (.int ((i4 &&& (2147483647 : Int32)) % (7 : Int32))), .val (.ref b1), .val (.ref b3), .val (.ref b5), .val (.ref b7), .val (.ref b1), .val (.ref b3)] [(.int ((i3 &&& (2147483647 : Int32)) % (7 : Int32))), (.int (own_lo ((i3 &&& (2147483647 : Int32)) % (7 : Int32)) ((i4 &&& (2147483647 : Int32)) % (7 : Int32))))])) (fun _ k => XS.iload X19.here hx rfl (hb hby at_172) rfl k) ?_
  refine own_step (f' := (mkF m 176 #[.val (.int i1), .val (.int i2), .val (.int i3), .val (.int i4), .val (.int ((i1 &&& (2147483647 : Int32)) % (7 : Int32))), .val (.int ((i2 &&& (2147483647 : Int32)) % (7 : Int32))), .val (.int ((i3 &&& (2147483647 : Int32)) % (7 : Int32))), .val (.int ((i4 &&& (2147483647 : Int32)) % (7 : Int32))), .val (.ref b1), .val (.ref b3), .val (.ref b5), .val (.ref b7), .val (.ref b1), .val (.ref b3)] [(.int ((i4 &&& (2147483647 : Int32)) % (7 : Int32))), (.int ((i3 &&& (2147483647 : Int32)) % (7 : Int32))), (.int (own_lo ((i3 &&& (2147483647 : Int32)) % (7 : Int32)) ((i4 &&& (2147483647 : Int32)) % (7 : Int32))))])) (fun _ k => XS.iload X19.here hx rfl (hb hby at_174) rfl k) ?_
  have Zq20 : n0 ≤ T7.heap.size := (Nat.le_trans (Nat.le_trans (Nat.le_trans (Nat.le_trans (Nat.le_trans (Nat.le_trans (Nat.le_trans Z0 E1.1) K2.1) E3.1) K4.1) E5.1) K6.1) K7.1)
  obtain ⟨_, _, ⟨T20, L20, k20, n20⟩, -, X20, ⟨Lc20, hQ20, l20, y20, z20⟩, st20⟩ := Jvm.LawKit.callS X19 hx (y := (⟨"java/lang/Math", "min", "(II)I"⟩ : MethodName)) hown (mvT hZ (hw _ (List.mem_of_getElem? (i := 99) rfl))) (mvT hZ (hw _ (List.mem_of_getElem? (i := 100) rfl))) (mvT hZ (hw _ (List.mem_of_getElem? (i := 101) rfl))) (mvT hZ (hw _ (List.mem_of_getElem? (i := 102) rfl))) (by decide) (backOf (W := 1) (rm15 l Z a0 hw [] ((i3 &&& (2147483647 : Int32)) % (7 : Int32)) ((i4 &&& (2147483647 : Int32)) % (7 : Int32)) T7.heap n0 Zq20 ) hZ (hw _ (List.mem_of_getElem? (i := 102) rfl)) (hw _ (List.mem_of_getElem? (i := 101) rfl)) (by decide) (by decide)) (g := (mkF m 176 #[.val (.int i1), .val (.int i2), .val (.int i3), .val (.int i4), .val (.int ((i1 &&& (2147483647 : Int32)) % (7 : Int32))), .val (.int ((i2 &&& (2147483647 : Int32)) % (7 : Int32))), .val (.int ((i3 &&& (2147483647 : Int32)) % (7 : Int32))), .val (.int ((i4 &&& (2147483647 : Int32)) % (7 : Int32))), .val (.ref b1), .val (.ref b3), .val (.ref b5), .val (.ref b7), .val (.ref b1), .val (.ref b3)] [(.int ((i4 &&& (2147483647 : Int32)) % (7 : Int32))), (.int ((i3 &&& (2147483647 : Int32)) % (7 : Int32))), (.int (own_lo ((i3 &&& (2147483647 : Int32)) % (7 : Int32)) ((i4 &&& (2147483647 : Int32)) % (7 : Int32))))])) rfl (by rw [hml]; rfl) (argsL := [(.int ((i3 &&& (2147483647 : Int32)) % (7 : Int32))), (.int ((i4 &&& (2147483647 : Int32)) % (7 : Int32)))]) (rest := [(.int (own_lo ((i3 &&& (2147483647 : Int32)) % (7 : Int32)) ((i4 &&& (2147483647 : Int32)) % (7 : Int32))))]) (lenOf pd_9 rfl) rfl (by show 2 * 0 + _ ≤ _; exact Nat.le_of_eq rfl) (hb hby at_176) (fun _ _ => ⟨rfl, e19, (by decide : 4 + 0 ≤ _), (by decide : 8 + 0 ≤ _)⟩)
  dsimp only [Pt.U, Pt.locs, Pt.cells, Pt.slots] at X20 l20 y20 z20 st20 hQ20
  subst l20 y20 z20
  obtain ⟨rfl, rfl, e20⟩ := hQ20
  try rw [List.append_nil] at X20
  refine own_step (f' := (mkF m 179 #[.val (.int i1), .val (.int i2), .val (.int i3), .val (.int i4), .val (.int ((i1 &&& (2147483647 : Int32)) % (7 : Int32))), .val (.int ((i2 &&& (2147483647 : Int32)) % (7 : Int32))), .val (.int ((i3 &&& (2147483647 : Int32)) % (7 : Int32))), .val (.int ((i4 &&& (2147483647 : Int32)) % (7 : Int32))), .val (.ref b1), .val (.ref b3), .val (.ref b5), .val (.ref b7), .val (.ref b1), .val (.ref b3)] [(.int (own_min ((i3 &&& (2147483647 : Int32)) % (7 : Int32)) ((i4 &&& (2147483647 : Int32)) % (7 : Int32)))), (.int (own_lo ((i3 &&& (2147483647 : Int32)) % (7 : Int32)) ((i4 &&& (2147483647 : Int32)) % (7 : Int32))))])) st20 ?_
  have hf179_21 : (own_lo ((i3 &&& (2147483647 : Int32)) % (7 : Int32)) ((i4 &&& (2147483647 : Int32)) % (7 : Int32))) = (own_min ((i3 &&& (2147483647 : Int32)) % (7 : Int32)) ((i4 &&& (2147483647 : Int32)) % (7 : Int32))) := rfl
  refine own_step (f' := (mkF m 182 #[.val (.int i1), .val (.int i2), .val (.int i3), .val (.int i4), .val (.int ((i1 &&& (2147483647 : Int32)) % (7 : Int32))), .val (.int ((i2 &&& (2147483647 : Int32)) % (7 : Int32))), .val (.int ((i3 &&& (2147483647 : Int32)) % (7 : Int32))), .val (.int ((i4 &&& (2147483647 : Int32)) % (7 : Int32))), .val (.ref b1), .val (.ref b3), .val (.ref b5), .val (.ref b7), .val (.ref b1), .val (.ref b3)] [])) (fun _ k => XS.icmpNo X20.here hx rfl (hb hby at_179) rfl (teq hf179_21).2 k) ?_
  refine own_step (f' := (mkF m 184 #[.val (.int i1), .val (.int i2), .val (.int i3), .val (.int i4), .val (.int ((i1 &&& (2147483647 : Int32)) % (7 : Int32))), .val (.int ((i2 &&& (2147483647 : Int32)) % (7 : Int32))), .val (.int ((i3 &&& (2147483647 : Int32)) % (7 : Int32))), .val (.int ((i4 &&& (2147483647 : Int32)) % (7 : Int32))), .val (.ref b1), .val (.ref b3), .val (.ref b5), .val (.ref b7), .val (.ref b1), .val (.ref b3)] [(.ref b3)])) (fun _ k => XS.aload X20.here hx rfl (hb hby at_182) rfl rfl k) ?_
  have Zq22 : n0 ≤ T7.heap.size := (Nat.le_trans (Nat.le_trans (Nat.le_trans (Nat.le_trans (Nat.le_trans (Nat.le_trans (Nat.le_trans Z0 E1.1) K2.1) E3.1) K4.1) E5.1) K6.1) K7.1)
  obtain ⟨cq22, kq22, q22a, q22b, q22c⟩ := isOf hZ e20 (((P4_0.ext E5).keep K6).keep K7)
  obtain ⟨_, _, ⟨T22, L22, k22, n22⟩, -, X22, ⟨Lc22, hQ22, l22, y22, z22⟩, st22⟩ := X20.virtualBack hx (y := (⟨"com/example/kostyashki/kostyashki/tiles/Tile", "high", "()I"⟩ : MethodName)) (z := (⟨"com/example/kostyashki/kostyashki/tiles/Tile", "high", "()I"⟩ : MethodName)) hown (mvT hZ (hw _ (List.mem_of_getElem? (i := 103) rfl))) (mvT hZ (hw _ (List.mem_of_getElem? (i := 104) rfl))) (notFace_of_selects (args := #[]) (mvT hZ (hw _ (List.mem_of_getElem? (i := 106) rfl)))) (mvT hZ (hw _ (List.mem_of_getElem? (i := 106) rfl))) (mvT hZ (hw _ (List.mem_of_getElem? (i := 105) rfl))) (by decide) (backOf (W := 0) (rm16 l Z a0 hw [] b3 (own_hi ((i3 &&& (2147483647 : Int32)) % (7 : Int32)) ((i4 &&& (2147483647 : Int32)) % (7 : Int32))) T7.heap n0 Zq22 (((P4_2.ext E5).keep K6 (ninS ne_b3_b5 nin0)).keep K7 nin0)) hZ (hw _ (List.mem_of_getElem? (i := 107) rfl)) (hw _ (List.mem_of_getElem? (i := 3) rfl)) (by decide) (by decide)) q22a q22c (g := (mkF m 184 #[.val (.int i1), .val (.int i2), .val (.int i3), .val (.int i4), .val (.int ((i1 &&& (2147483647 : Int32)) % (7 : Int32))), .val (.int ((i2 &&& (2147483647 : Int32)) % (7 : Int32))), .val (.int ((i3 &&& (2147483647 : Int32)) % (7 : Int32))), .val (.int ((i4 &&& (2147483647 : Int32)) % (7 : Int32))), .val (.ref b1), .val (.ref b3), .val (.ref b5), .val (.ref b7), .val (.ref b1), .val (.ref b3)] [(.ref b3)])) rfl (by rw [hml]; rfl) (Steps.refl _) (argsL := []) (rest := []) (lenOf pd_7 rfl) rfl (by show 2 * 0 + _ ≤ _; exact Nat.le_of_eq rfl) (hb hby at_184) (fun _ _ => ⟨rfl, e20, (by decide : 4 + 0 ≤ _), (by decide : 8 + 0 ≤ _)⟩)
  dsimp only [Pt.U, Pt.locs, Pt.cells, Pt.slots] at X22 l22 y22 z22 st22 hQ22
  subst l22 y22 z22
  obtain ⟨rfl, rfl, e22⟩ := hQ22
  try rw [List.append_nil] at X22
  refine own_jump (f' := (mkF m 187 #[.val (.int i1), .val (.int i2), .val (.int i3), .val (.int i4), .val (.int ((i1 &&& (2147483647 : Int32)) % (7 : Int32))), .val (.int ((i2 &&& (2147483647 : Int32)) % (7 : Int32))), .val (.int ((i3 &&& (2147483647 : Int32)) % (7 : Int32))), .val (.int ((i4 &&& (2147483647 : Int32)) % (7 : Int32))), .val (.ref b1), .val (.ref b3), .val (.ref b5), .val (.ref b7), .val (.ref b1), .val (.ref b3)] [(.int (own_hi ((i3 &&& (2147483647 : Int32)) % (7 : Int32)) ((i4 &&& (2147483647 : Int32)) % (7 : Int32))))])) st22 ?_
  refine own_step (f' := (mkF m 189 #[.val (.int i1), .val (.int i2), .val (.int i3), .val (.int i4), .val (.int ((i1 &&& (2147483647 : Int32)) % (7 : Int32))), .val (.int ((i2 &&& (2147483647 : Int32)) % (7 : Int32))), .val (.int ((i3 &&& (2147483647 : Int32)) % (7 : Int32))), .val (.int ((i4 &&& (2147483647 : Int32)) % (7 : Int32))), .val (.ref b1), .val (.ref b3), .val (.ref b5), .val (.ref b7), .val (.ref b1), .val (.ref b3)] [(.int ((i3 &&& (2147483647 : Int32)) % (7 : Int32))), (.int (own_hi ((i3 &&& (2147483647 : Int32)) % (7 : Int32)) ((i4 &&& (2147483647 : Int32)) % (7 : Int32))))])) (fun _ k => XS.iload X22.here hx rfl (hb hby at_187) rfl k) ?_
  refine own_step (f' := (mkF m 191 #[.val (.int i1), .val (.int i2), .val (.int i3), .val (.int i4), .val (.int ((i1 &&& (2147483647 : Int32)) % (7 : Int32))), .val (.int ((i2 &&& (2147483647 : Int32)) % (7 : Int32))), .val (.int ((i3 &&& (2147483647 : Int32)) % (7 : Int32))), .val (.int ((i4 &&& (2147483647 : Int32)) % (7 : Int32))), .val (.ref b1), .val (.ref b3), .val (.ref b5), .val (.ref b7), .val (.ref b1), .val (.ref b3)] [(.int ((i4 &&& (2147483647 : Int32)) % (7 : Int32))), (.int ((i3 &&& (2147483647 : Int32)) % (7 : Int32))), (.int (own_hi ((i3 &&& (2147483647 : Int32)) % (7 : Int32)) ((i4 &&& (2147483647 : Int32)) % (7 : Int32))))])) (fun _ k => XS.iload X22.here hx rfl (hb hby at_189) rfl k) ?_
  have Zq23 : n0 ≤ T7.heap.size := (Nat.le_trans (Nat.le_trans (Nat.le_trans (Nat.le_trans (Nat.le_trans (Nat.le_trans (Nat.le_trans Z0 E1.1) K2.1) E3.1) K4.1) E5.1) K6.1) K7.1)
  obtain ⟨_, _, ⟨T23, L23, k23, n23⟩, -, X23, ⟨Lc23, hQ23, l23, y23, z23⟩, st23⟩ := Jvm.LawKit.callS X22 hx (y := (⟨"java/lang/Math", "max", "(II)I"⟩ : MethodName)) hown (mvT hZ (hw _ (List.mem_of_getElem? (i := 108) rfl))) (mvT hZ (hw _ (List.mem_of_getElem? (i := 109) rfl))) (mvT hZ (hw _ (List.mem_of_getElem? (i := 101) rfl))) (mvT hZ (hw _ (List.mem_of_getElem? (i := 110) rfl))) (by decide) (backOf (W := 1) (rm17 l Z a0 hw [] ((i3 &&& (2147483647 : Int32)) % (7 : Int32)) ((i4 &&& (2147483647 : Int32)) % (7 : Int32)) T7.heap n0 Zq23 ) hZ (hw _ (List.mem_of_getElem? (i := 110) rfl)) (hw _ (List.mem_of_getElem? (i := 101) rfl)) (by decide) (by decide)) (g := (mkF m 191 #[.val (.int i1), .val (.int i2), .val (.int i3), .val (.int i4), .val (.int ((i1 &&& (2147483647 : Int32)) % (7 : Int32))), .val (.int ((i2 &&& (2147483647 : Int32)) % (7 : Int32))), .val (.int ((i3 &&& (2147483647 : Int32)) % (7 : Int32))), .val (.int ((i4 &&& (2147483647 : Int32)) % (7 : Int32))), .val (.ref b1), .val (.ref b3), .val (.ref b5), .val (.ref b7), .val (.ref b1), .val (.ref b3)] [(.int ((i4 &&& (2147483647 : Int32)) % (7 : Int32))), (.int ((i3 &&& (2147483647 : Int32)) % (7 : Int32))), (.int (own_hi ((i3 &&& (2147483647 : Int32)) % (7 : Int32)) ((i4 &&& (2147483647 : Int32)) % (7 : Int32))))])) rfl (by rw [hml]; rfl) (argsL := [(.int ((i3 &&& (2147483647 : Int32)) % (7 : Int32))), (.int ((i4 &&& (2147483647 : Int32)) % (7 : Int32)))]) (rest := [(.int (own_hi ((i3 &&& (2147483647 : Int32)) % (7 : Int32)) ((i4 &&& (2147483647 : Int32)) % (7 : Int32))))]) (lenOf pd_9 rfl) rfl (by show 2 * 0 + _ ≤ _; exact Nat.le_of_eq rfl) (hb hby at_191) (fun _ _ => ⟨rfl, e22, (by decide : 4 + 0 ≤ _), (by decide : 8 + 0 ≤ _)⟩)
  dsimp only [Pt.U, Pt.locs, Pt.cells, Pt.slots] at X23 l23 y23 z23 st23 hQ23
  subst l23 y23 z23
  obtain ⟨rfl, rfl, e23⟩ := hQ23
  try rw [List.append_nil] at X23
  refine own_step (f' := (mkF m 194 #[.val (.int i1), .val (.int i2), .val (.int i3), .val (.int i4), .val (.int ((i1 &&& (2147483647 : Int32)) % (7 : Int32))), .val (.int ((i2 &&& (2147483647 : Int32)) % (7 : Int32))), .val (.int ((i3 &&& (2147483647 : Int32)) % (7 : Int32))), .val (.int ((i4 &&& (2147483647 : Int32)) % (7 : Int32))), .val (.ref b1), .val (.ref b3), .val (.ref b5), .val (.ref b7), .val (.ref b1), .val (.ref b3)] [(.int (own_max ((i3 &&& (2147483647 : Int32)) % (7 : Int32)) ((i4 &&& (2147483647 : Int32)) % (7 : Int32)))), (.int (own_hi ((i3 &&& (2147483647 : Int32)) % (7 : Int32)) ((i4 &&& (2147483647 : Int32)) % (7 : Int32))))])) st23 ?_
  have hf194_24 : (own_hi ((i3 &&& (2147483647 : Int32)) % (7 : Int32)) ((i4 &&& (2147483647 : Int32)) % (7 : Int32))) = (own_max ((i3 &&& (2147483647 : Int32)) % (7 : Int32)) ((i4 &&& (2147483647 : Int32)) % (7 : Int32))) := own_max2 _ _
  refine own_step (f' := (mkF m 197 #[.val (.int i1), .val (.int i2), .val (.int i3), .val (.int i4), .val (.int ((i1 &&& (2147483647 : Int32)) % (7 : Int32))), .val (.int ((i2 &&& (2147483647 : Int32)) % (7 : Int32))), .val (.int ((i3 &&& (2147483647 : Int32)) % (7 : Int32))), .val (.int ((i4 &&& (2147483647 : Int32)) % (7 : Int32))), .val (.ref b1), .val (.ref b3), .val (.ref b5), .val (.ref b7), .val (.ref b1), .val (.ref b3)] [])) (fun _ k => XS.icmpNo X23.here hx rfl (hb hby at_194) rfl (teq hf194_24).2 k) ?_
  refine own_step (f' := (mkF m 198 #[.val (.int i1), .val (.int i2), .val (.int i3), .val (.int i4), .val (.int ((i1 &&& (2147483647 : Int32)) % (7 : Int32))), .val (.int ((i2 &&& (2147483647 : Int32)) % (7 : Int32))), .val (.int ((i3 &&& (2147483647 : Int32)) % (7 : Int32))), .val (.int ((i4 &&& (2147483647 : Int32)) % (7 : Int32))), .val (.ref b1), .val (.ref b3), .val (.ref b5), .val (.ref b7), .val (.ref b1), .val (.ref b3)] [(.int (1 : Int32))])) (fun _ k => XS.iconst X23.here hx rfl (hb hby at_197) k) ?_
  refine own_step (f' := (mkF m 202 #[.val (.int i1), .val (.int i2), .val (.int i3), .val (.int i4), .val (.int ((i1 &&& (2147483647 : Int32)) % (7 : Int32))), .val (.int ((i2 &&& (2147483647 : Int32)) % (7 : Int32))), .val (.int ((i3 &&& (2147483647 : Int32)) % (7 : Int32))), .val (.int ((i4 &&& (2147483647 : Int32)) % (7 : Int32))), .val (.ref b1), .val (.ref b3), .val (.ref b5), .val (.ref b7), .val (.ref b1), .val (.ref b3)] [(.int (1 : Int32))])) (fun _ k => XS.goto X23.here hx rfl (pc0 := 198) (pc' := 202) rfl (hb hby at_198) (by decide) (by decide) k) ?_
  refine own_out (v := some (.int (1 : Int32))) X23 hlk (fun h => by rw [Bd.returns] at h; cases h) (fun fs hr => retN X23 hx (t := .boolean) Bd.returns (by simp) (hb hby at_202) hr) (by decide) (by decide) ?_
  exact ⟨rfl, N7⟩
set_option maxRecDepth 65536 in
set_option maxHeartbeats 40000000 in
theorem comes_1 {Post : Tables → Env → Array Value → State → Outcome → State → Prop} (hpost : ∀ tb e args s v u, (limb_1_1.after args s (.returned v) u = true ∧ limb_1_2.after args s (.returned v) u = true ∧ True) → FrameEnd s (.returned v) u (Jvm.fieldLocs frame_1_writes args s ++ Jvm.arrayLocs frame_1_arrays args s ++ Jvm.staticLocs frame_1_statics s) 16 128 → Post tb e args s (.returned v) u) :
    ArmFor flags0 classFile x code maxLocals ret World_1 tables_1 room_1 Calls_1 rest_1 Pre_1 Post := by
  intro l hfl _ _ p e ha hc hk s m args below hf hA hF happ hP
  obtain ⟨hcalls, hrest, hpre⟩ := hP
  obtain ⟨-, -, -, hnamed, -, -, -, hat⟩ := (Spec.applies_iff hf).mp happ
  obtain ⟨hg, hn⟩ := and_e (Cond.before_iff.mp (show (Jvm.Cond.and given_1 narrow_1).before args s = true from hpre))
  obtain ⟨gq1, gq2⟩ := and_e hg
  obtain ⟨gq3, gq4⟩ := and_e gq2
  obtain ⟨gq5, gq6⟩ := and_e gq4
  obtain ⟨gq7, gq8⟩ := and_e gq6
  obtain ⟨w0, w1, w2, w3, rfl⟩ : ∃ w0 w1 w2 w3 : Value, args = #[w0, w1, w2, w3] := by
    have hs : args.size = 4 := by simpa [Cond.value, given_1] using gq1
    obtain ⟨L⟩ := args
    match L, hs with
    | [w0, w1, w2, w3], _ => exact ⟨w0, w1, w2, w3, rfl⟩
  have hw := fun d (hd : d ∈ tables_1) => atoms_spec (ws := Jvm.Cond.code x code maxLocals ret :: tables_1) hat d (List.mem_cons_of_mem _ hd)
  have hfit : Fit s := fun {y c} hc i hi => by
    obtain ⟨ha, rfl⟩ := Array.getElem?_eq_some_iff.mp hc
    have q := List.all_eq_true.mp ((Array.all_eq_true_iff_forall_mem.mp hF) _ (Array.getElem_mem ha)) i (List.mem_range.mpr hi)
    simpa [Array.getElem?_eq_getElem hi] using q
  obtain ⟨hsets, hown0⟩ := atoms_of _ (rest_1_c_eq ▸ (show rest_1_c.before _ s = true from hrest))
  have hr0 := Cond.before_iff.mp hown0
  obtain ⟨i0, ei0⟩ := is_v gq3
  obtain rfl : w0 = (.int i0) := Option.some.inj ei0
  obtain ⟨i1, ei1⟩ := is_v gq5
  obtain rfl : w1 = (.int i1) := Option.some.inj ei1
  obtain ⟨i2, ei2⟩ := is_v gq7
  obtain rfl : w2 = (.int i2) := Option.some.inj ei2
  obtain ⟨i3, ei3⟩ := is_v gq8
  obtain rfl : w3 = (.int i3) := Option.some.inj ei3
  have q2 := Cond.before_iff.mp (hsets _ (List.mem_of_getElem? (i := 2) rfl))
  obtain ⟨w1, hw1⟩ := exa_v q2
  have S1 : Sta s s.heap "java/util/ImmutableCollections" "EMPTY" "Ljava/lang/Object;" (.ref w1) := Sta.start hw1 (Or.inr ⟨(hw _ (List.mem_of_getElem? (i := 84) rfl)), hsets _ (List.mem_of_getElem? (i := 0) rfl)⟩)
  have E1 : Exa s s.heap w1 "java/lang/Object" := Exa.start hw1 q2
  obtain ⟨n, o, h1, h2, h3, _, L, rfl, ⟨rfl, N⟩, hq⟩ := rm0 l s _ hw tables_1 i0 i1 i2 i3 w1 s.heap s.heap.size (Nat.le_refl _) S1 E1 p e ha hc hk s m _ below hf ((Spec.applies_iff_loose hf).mp happ).1 ⟨rfl, State.Warmed39.refl s, rfl⟩ trivial
  refine ⟨n, _, h1, h2, h3, hpost _ _ _ _ _ _ ⟨Cond.after_iff.mpr rfl, Cond.after_iff.mpr (eq_i res_at (Term.int_eval (1)) rfl), trivial⟩ ⟨hq.1, hq.2.1, (hq.2.2.sift fun y hy => Or.inr (N y hy)).mono (by decide) (by decide)⟩⟩
theorem main_1_1 : Claimed_1_1 := comes_1 fun _ _ _ _ _ _ h hF => ⟨h.1, hF⟩
theorem main_1_2 : Claimed_1_2 := comes_1 fun _ _ _ _ _ _ h hF => ⟨h.2.1, hF⟩
end Jvm.Pilot.@@N@@
namespace Jvm.Pilot.@@N@@
open Jvm Jvm.ClassFile Sem Op Lib Jvm.Free Jvm.Stand Jvm.Pilot.@@N@@.Jvm.D
/-! MADE BY PROGRAM (witnessworld.py) out of the Statement's table words and the real class files: 25 classes; the members and pool entries that the words name. The judged class is class 1, her method 1. -/
namespace start1
open Jvm.ClassFile
def u (s : String) : CpInfo := .utf8 (stringToUtf16 s)
/-- a pool by its gaps: so many unusable entries, then the entry; so many at the end -/
def gap : Nat → List CpInfo → List CpInfo
  | 0, r => r
  | n + 1, r => .unusable :: gap n r
def poolList (es : List (Nat × CpInfo)) (last : Nat) : List CpInfo := es.foldr (fun e r => gap e.1 (e.2 :: r)) (gap last [])
def pool (es : List (Nat × CpInfo)) (last : Nat) : Array CpInfo := ⟨poolList es last⟩
def fileOf (pool : Array CpInfo) (this : Nat) (attrs : Array Attribute := #[]) (ms : Array MethodInfo := #[]) (fl : Nat := 33) (sup : Nat := 0) (ifs : Array Nat := #[]) (fds : Array FieldInfo := #[]) : ClassFile where
  minorVersion := 0
  majorVersion := 65
  constantPool := pool
  accessFlags := fl
  thisClass := this
  superClass := sup
  interfaces := ifs
  fields := fds
  methods := ms
  attributes := attrs
def plain (name : String) (sup : Option ClassId) : Class where
  name := name
  kind := .ordinary
  loader := none
  accessFlags := 33
  super := sup
  interfaces := #[]
  cf := none
  fields := #[]
  methods := #[]
  instanceTypes := #[]
  staticTypes := #[]
  resolved := #[]
  callSites := []
  init := .initialized
  statics := none
  mirror := none

def pool0 : Array CpInfo := pool [(5, u "<init>"), (0, u "()V"), (1, .class_ 10), (1, u "java/lang/Object")] 113

def k0c0 : Code := { maxStack := 0, maxLocals := 1, code := object_method_1_code, exceptionTable := #[], attributes := #[] }
def k0m0 : Method := { name := "<init>", desc := "()V", sig := { parameters := [], returnType := none }, accessFlags := 1, code := some k0c0 }
/-- java/lang/Object -/
def k0 : Class := { plain "java/lang/Object" none with
  accessFlags := 33
  interfaces := #[]
  cf := some (fileOf pool0 8 #[] #[{ accessFlags := 1, nameIndex := 5, descriptorIndex := 6, attributes := #[] }] 33 0 #[] #[])
  fields := #[]
  methods := #[k0m0]
  instanceTypes := #[]
  staticTypes := #[]
  resolved := Array.replicate 124 none
  statics := none }

def pool1 : Array CpInfo := pool [(2, .class_ 4), (1, u "java/lang/Object"), (0, u "<init>"), (0, u "()V"), (0, .integer 2147483647), (0, .class_ 9), (0, u "com/example/kostyashki/kostyashki/tiles/Tile"), (0, .methodref 8 11), (0, .nameAndType 5 12), (0, u "(II)V"), (0, .class_ 14), (0, u "com/example/kostyashki/kostyashki/round/BothEnds"), (0, .methodref 13 16), (0, .nameAndType 5 17), (0, u "(Lcom/example/kostyashki/kostyashki/tiles/Tile;Lcom/example/kostyashki/kostyashki/tiles/Tile;)V"), (0, .methodref 13 19), (0, .nameAndType 20 21), (0, u "tiles"), (0, u "()Ljava/util/List;"), (0, .interfaceMethodref 23 24), (0, .class_ 25), (0, .nameAndType 26 27), (0, u "java/util/List"), (0, u "size"), (0, u "()I"), (0, .interfaceMethodref 23 29), (0, .nameAndType 30 31), (0, u "get"), (0, u "(I)Ljava/lang/Object;"), (0, .methodref 8 33), (0, .nameAndType 34 27), (0, u "low"), (0, .methodref 36 37), (0, .class_ 38), (0, .nameAndType 39 40), (0, u "java/lang/Math"), (0, u "min"), (0, u "(II)I"), (0, .methodref 8 42), (0, .nameAndType 43 27), (0, u "high"), (0, .methodref 36 45), (0, .nameAndType 46 40), (0, u "max"), (0, .class_ 48), (0, u "com/example/kostyashki/kostyashki/round/BothEndsTilesPinLaw"), (2, u "law"), (0, u "(IIII)Z")] 3

def k1m0 : Method := { name := "<init>", desc := "()V", sig := { parameters := [], returnType := none }, accessFlags := 1, code := none }
def k1c1 : Code := { maxStack := 4, maxLocals := 14, code := code, exceptionTable := #[], attributes := #[] }
def k1m1 : Method := { name := "law", desc := "(IIII)Z", sig := { parameters := [.int, .int, .int, .int], returnType := some .boolean }, accessFlags := 9, code := some k1c1 }
/-- com/example/kostyashki/kostyashki/round/BothEndsTilesPinLaw -/
def k1 : Class := { plain "com/example/kostyashki/kostyashki/round/BothEndsTilesPinLaw" (some 0) with
  accessFlags := 49
  interfaces := #[]
  cf := some (fileOf pool1 47 #[] #[{ accessFlags := 1, nameIndex := 5, descriptorIndex := 6, attributes := #[] }, { accessFlags := 9, nameIndex := 51, descriptorIndex := 52, attributes := #[] }] 49 2 #[] #[])
  fields := #[]
  methods := #[k1m0, k1m1]
  instanceTypes := #[]
  staticTypes := #[]
  resolved := Array.replicate 56 none
  statics := none }

def pool2 : Array CpInfo := pool [(1, .methodref 2 3), (0, .class_ 4), (0, .nameAndType 5 6), (0, u "java/lang/Object"), (0, u "<init>"), (0, u "()V"), (0, .class_ 8), (0, u "java/lang/Record")] 13

def k2c0 : Code := { maxStack := 1, maxLocals := 1, code := jdk_30_method_1_code, exceptionTable := #[], attributes := #[] }
def k2m0 : Method := { name := "<init>", desc := "()V", sig := { parameters := [], returnType := none }, accessFlags := 4, code := some k2c0 }
/-- java/lang/Record -/
def k2 : Class := { plain "java/lang/Record" (some 0) with
  accessFlags := 1057
  interfaces := #[]
  cf := some (fileOf pool2 7 #[] #[{ accessFlags := 4, nameIndex := 5, descriptorIndex := 6, attributes := #[] }] 1057 2 #[] #[])
  fields := #[]
  methods := #[k2m0]
  instanceTypes := #[]
  staticTypes := #[]
  resolved := Array.replicate 22 none
  statics := none }

def pool3 : Array CpInfo := pool [(1, .methodref 2 3), (0, .class_ 4), (0, .nameAndType 5 6), (0, u "java/lang/Record"), (0, u "<init>"), (0, u "()V"), (0, .class_ 8), (0, u "com/example/kostyashki/kostyashki/tiles/Tile"), (9, .fieldref 7 19), (0, .nameAndType 20 21), (0, u "low"), (0, u "I"), (0, .fieldref 7 23), (0, .nameAndType 24 21), (0, u "high"), (2, u "SET"), (0, u "Ljava/util/List;"), (5, u "()I"), (13, u "(II)V"), (28, u "MAX_HALF")] 51

def k3c0 : Code := { maxStack := 4, maxLocals := 4, code := prog_60_method_1_code, exceptionTable := #[], attributes := #[] }
def k3m0 : Method := { name := "<init>", desc := "(II)V", sig := { parameters := [.int, .int], returnType := none }, accessFlags := 1, code := some k3c0 }
def k3c1 : Code := { maxStack := 1, maxLocals := 1, code := prog_60_method_11_code, exceptionTable := #[], attributes := #[] }
def k3m1 : Method := { name := "low", desc := "()I", sig := { parameters := [], returnType := some .int }, accessFlags := 1, code := some k3c1 }
def k3c2 : Code := { maxStack := 1, maxLocals := 1, code := prog_60_method_12_code, exceptionTable := #[], attributes := #[] }
def k3m2 : Method := { name := "high", desc := "()I", sig := { parameters := [], returnType := some .int }, accessFlags := 1, code := some k3c2 }
/-- com/example/kostyashki/kostyashki/tiles/Tile -/
def k3 : Class := { plain "com/example/kostyashki/kostyashki/tiles/Tile" (some 2) with
  accessFlags := 49
  interfaces := #[]
  cf := some (fileOf pool3 7 #[] #[{ accessFlags := 1, nameIndex := 5, descriptorIndex := 48, attributes := #[] }, { accessFlags := 1, nameIndex := 20, descriptorIndex := 34, attributes := #[] }, { accessFlags := 1, nameIndex := 24, descriptorIndex := 34, attributes := #[] }] 49 2 #[] #[{ accessFlags := 18, nameIndex := 20, descriptorIndex := 21, attributes := #[] }, { accessFlags := 18, nameIndex := 24, descriptorIndex := 21, attributes := #[] }, { accessFlags := 25, nameIndex := 77, descriptorIndex := 21, attributes := #[] }, { accessFlags := 26, nameIndex := 27, descriptorIndex := 28, attributes := #[] }])
  fields := #[{ name := "low", type := .int, accessFlags := 18, slot := 0, constantValue := 0 }, { name := "high", type := .int, accessFlags := 18, slot := 1, constantValue := 0 }, { name := "MAX_HALF", type := .int, accessFlags := 25, slot := 0, constantValue := 0 }, { name := "SET", type := (.object "java/util/List"), accessFlags := 26, slot := 1, constantValue := 0 }]
  methods := #[k3m0, k3m1, k3m2]
  instanceTypes := #[.int, .int]
  staticTypes := #[.int, (.object "java/util/List")]
  resolved := Array.replicate 129 none
  statics := none }

def pool4 : Array CpInfo := pool [(1, .class_ 2), (0, u "com/example/kostyashki/kostyashki/round/Move"), (0, .class_ 4), (0, u "java/lang/Object")] 13

/-- com/example/kostyashki/kostyashki/round/Move -/
def k4 : Class := { plain "com/example/kostyashki/kostyashki/round/Move" (some 0) with
  accessFlags := 1537
  interfaces := #[]
  cf := some (fileOf pool4 1 #[] #[] 1537 3 #[] #[])
  fields := #[]
  methods := #[]
  instanceTypes := #[]
  staticTypes := #[]
  resolved := Array.replicate 18 none
  statics := none }

def pool5 : Array CpInfo := pool [(1, .methodref 2 3), (0, .class_ 4), (0, .nameAndType 5 6), (0, u "java/lang/Record"), (0, u "<init>"), (0, u "()V"), (0, .methodref 8 9), (0, .class_ 10), (0, .nameAndType 11 12), (0, u "java/util/Objects"), (0, u "requireNonNull"), (0, u "(Ljava/lang/Object;)Ljava/lang/Object;"), (0, .fieldref 14 15), (0, .class_ 16), (0, .nameAndType 17 18), (0, u "com/example/kostyashki/kostyashki/round/BothEnds"), (0, u "first"), (0, u "Lcom/example/kostyashki/kostyashki/tiles/Tile;"), (0, .fieldref 14 20), (0, .nameAndType 21 18), (0, u "second"), (0, .interfaceMethodref 23 24), (0, .class_ 25), (0, .nameAndType 26 27), (0, u "java/util/List"), (0, u "of"), (0, u "(Ljava/lang/Object;Ljava/lang/Object;)Ljava/util/List;"), (12, .class_ 41), (0, u "com/example/kostyashki/kostyashki/round/Move"), (0, u "(Lcom/example/kostyashki/kostyashki/tiles/Tile;Lcom/example/kostyashki/kostyashki/tiles/Tile;)V"), (3, u "tiles"), (0, u "()Ljava/util/List;")] 27

def k5c0 : Code := { maxStack := 2, maxLocals := 3, code := prog_44_method_1_code, exceptionTable := #[], attributes := #[] }
def k5m0 : Method := { name := "<init>", desc := "(Lcom/example/kostyashki/kostyashki/tiles/Tile;Lcom/example/kostyashki/kostyashki/tiles/Tile;)V", sig := { parameters := [(.object "com/example/kostyashki/kostyashki/tiles/Tile"), (.object "com/example/kostyashki/kostyashki/tiles/Tile")], returnType := none }, accessFlags := 1, code := some k5c0 }
def k5c1 : Code := { maxStack := 2, maxLocals := 1, code := prog_44_method_2_code, exceptionTable := #[], attributes := #[] }
def k5m1 : Method := { name := "tiles", desc := "()Ljava/util/List;", sig := { parameters := [], returnType := some (.object "java/util/List") }, accessFlags := 1, code := some k5c1 }
/-- com/example/kostyashki/kostyashki/round/BothEnds -/
def k5 : Class := { plain "com/example/kostyashki/kostyashki/round/BothEnds" (some 2) with
  accessFlags := 49
  interfaces := #[4]
  cf := some (fileOf pool5 14 #[] #[{ accessFlags := 1, nameIndex := 5, descriptorIndex := 42, attributes := #[] }, { accessFlags := 1, nameIndex := 46, descriptorIndex := 47, attributes := #[] }] 49 2 #[40] #[{ accessFlags := 18, nameIndex := 17, descriptorIndex := 18, attributes := #[] }, { accessFlags := 18, nameIndex := 21, descriptorIndex := 18, attributes := #[] }])
  fields := #[{ name := "first", type := (.object "com/example/kostyashki/kostyashki/tiles/Tile"), accessFlags := 18, slot := 0, constantValue := 0 }, { name := "second", type := (.object "com/example/kostyashki/kostyashki/tiles/Tile"), accessFlags := 18, slot := 1, constantValue := 0 }]
  methods := #[k5m0, k5m1]
  instanceTypes := #[(.object "com/example/kostyashki/kostyashki/tiles/Tile"), (.object "com/example/kostyashki/kostyashki/tiles/Tile")]
  staticTypes := #[]
  resolved := Array.replicate 75 none
  statics := none }

def pool6 : Array CpInfo := pool [(2, .class_ 4), (1, u "java/lang/Object"), (0, u "<init>"), (0, u "()V"), (35, .class_ 44), (1, u "java/util/Objects"), (0, u "requireNonNull"), (0, u "(Ljava/lang/Object;)Ljava/lang/Object;")] 137

def k6m0 : Method := { name := "<init>", desc := "()V", sig := { parameters := [], returnType := none }, accessFlags := 2, code := none }
def k6c1 : Code := { maxStack := 2, maxLocals := 1, code := jdk_31_method_10_code, exceptionTable := #[], attributes := #[] }
def k6m1 : Method := { name := "requireNonNull", desc := "(Ljava/lang/Object;)Ljava/lang/Object;", sig := { parameters := [(.object "java/lang/Object")], returnType := some (.object "java/lang/Object") }, accessFlags := 9, code := some k6c1 }
/-- java/util/Objects -/
def k6 : Class := { plain "java/util/Objects" (some 0) with
  accessFlags := 49
  interfaces := #[]
  cf := some (fileOf pool6 42 #[] #[{ accessFlags := 2, nameIndex := 5, descriptorIndex := 6, attributes := #[] }, { accessFlags := 9, nameIndex := 45, descriptorIndex := 46, attributes := #[] }] 49 2 #[] #[])
  fields := #[]
  methods := #[k6m0, k6m1]
  instanceTypes := #[]
  staticTypes := #[]
  resolved := Array.replicate 184 none
  statics := none }

def pool7 : Array CpInfo := pool [(8, .class_ 10), (1, u "java/lang/Iterable"), (24, .class_ 36), (0, u "java/lang/Object")] 25

/-- java/lang/Iterable -/
def k7 : Class := { plain "java/lang/Iterable" (some 0) with
  accessFlags := 1537
  interfaces := #[]
  cf := some (fileOf pool7 8 #[] #[] 1537 35 #[] #[])
  fields := #[]
  methods := #[]
  instanceTypes := #[]
  staticTypes := #[]
  resolved := Array.replicate 62 none
  statics := none }

def pool8 : Array CpInfo := pool [(10, .class_ 12), (1, u "java/util/Collection"), (47, .class_ 61), (0, u "java/lang/Object"), (0, .class_ 63), (0, u "java/lang/Iterable")] 51

/-- java/util/Collection -/
def k8 : Class := { plain "java/util/Collection" (some 0) with
  accessFlags := 1537
  interfaces := #[7]
  cf := some (fileOf pool8 10 #[] #[] 1537 60 #[62] #[])
  fields := #[]
  methods := #[]
  instanceTypes := #[]
  staticTypes := #[]
  resolved := Array.replicate 115 none
  statics := none }

def pool9 : Array CpInfo := pool [(8, .class_ 10), (1, u "java/util/SequencedCollection"), (15, .class_ 27), (0, u "java/lang/Object"), (0, .class_ 29), (0, u "java/util/Collection")] 27

/-- java/util/SequencedCollection -/
def k9 : Class := { plain "java/util/SequencedCollection" (some 0) with
  accessFlags := 1537
  interfaces := #[8]
  cf := some (fileOf pool9 8 #[] #[] 1537 26 #[28] #[])
  fields := #[]
  methods := #[]
  instanceTypes := #[]
  staticTypes := #[]
  resolved := Array.replicate 57 none
  statics := none }

def pool10 : Array CpInfo := pool [(8, .class_ 10), (1, u "java/util/List"), (37, u "<init>"), (26, u "get"), (0, u "(I)Ljava/lang/Object;"), (2, u "size"), (0, u "()I"), (7, u "of"), (7, .class_ 97), (0, u "java/util/ImmutableCollections$List12"), (2, .methodref 96 101), (0, .nameAndType 48 102), (0, u "(Ljava/lang/Object;Ljava/lang/Object;)V"), (0, .class_ 104), (0, u "java/lang/Object"), (15, .class_ 121), (0, u "java/util/SequencedCollection"), (79, u "(Ljava/lang/Object;Ljava/lang/Object;)Ljava/util/List;")] 49

def k10m0 : Method := { name := "size", desc := "()I", sig := { parameters := [], returnType := some .int }, accessFlags := 1025, code := none }
def k10m1 : Method := { name := "get", desc := "(I)Ljava/lang/Object;", sig := { parameters := [.int], returnType := some (.object "java/lang/Object") }, accessFlags := 1025, code := none }
def k10c2 : Code := { maxStack := 4, maxLocals := 2, code := jdk_40_method_38_code, exceptionTable := #[], attributes := #[] }
def k10m2 : Method := { name := "of", desc := "(Ljava/lang/Object;Ljava/lang/Object;)Ljava/util/List;", sig := { parameters := [(.object "java/lang/Object"), (.object "java/lang/Object")], returnType := some (.object "java/util/List") }, accessFlags := 9, code := some k10c2 }
/-- java/util/List -/
def k10 : Class := { plain "java/util/List" (some 0) with
  accessFlags := 1537
  interfaces := #[9]
  cf := some (fileOf pool10 8 #[] #[{ accessFlags := 1025, nameIndex := 79, descriptorIndex := 80, attributes := #[] }, { accessFlags := 1025, nameIndex := 75, descriptorIndex := 76, attributes := #[] }, { accessFlags := 9, nameIndex := 88, descriptorIndex := 201, attributes := #[] }] 1537 103 #[120] #[])
  fields := #[]
  methods := #[k10m0, k10m1, k10m2]
  instanceTypes := #[]
  staticTypes := #[]
  resolved := Array.replicate 251 none
  statics := none }

def pool11 : Array CpInfo := pool [(1, .methodref 2 3), (0, .class_ 4), (0, .nameAndType 5 6), (0, u "java/lang/Object"), (0, u "<init>"), (0, u "()V"), (1, .class_ 10), (1, u "java/util/AbstractCollection"), (66, .class_ 78), (0, u "java/util/Collection")] 81

def k11c0 : Code := { maxStack := 1, maxLocals := 1, code := jdk_22_method_1_code, exceptionTable := #[], attributes := #[] }
def k11m0 : Method := { name := "<init>", desc := "()V", sig := { parameters := [], returnType := none }, accessFlags := 4, code := some k11c0 }
/-- java/util/AbstractCollection -/
def k11 : Class := { plain "java/util/AbstractCollection" (some 0) with
  accessFlags := 1057
  interfaces := #[8]
  cf := some (fileOf pool11 8 #[] #[{ accessFlags := 4, nameIndex := 5, descriptorIndex := 6, attributes := #[] }] 1057 2 #[77] #[])
  fields := #[]
  methods := #[k11m0]
  instanceTypes := #[]
  staticTypes := #[]
  resolved := Array.replicate 160 none
  statics := none }

def pool12 : Array CpInfo := pool [(1, .methodref 2 3), (0, .class_ 4), (0, .nameAndType 5 6), (0, u "java/util/AbstractCollection"), (0, u "<init>"), (0, u "()V"), (1, .class_ 10), (1, u "java/util/ImmutableCollections"), (2, .class_ 14), (0, u "java/util/ImmutableCollections$AbstractImmutableCollection")] 41

def k12c0 : Code := { maxStack := 1, maxLocals := 1, code := jdk_47_method_1_code, exceptionTable := #[], attributes := #[] }
def k12m0 : Method := { name := "<init>", desc := "()V", sig := { parameters := [], returnType := none }, accessFlags := 0, code := some k12c0 }
/-- java/util/ImmutableCollections$AbstractImmutableCollection -/
def k12 : Class := { plain "java/util/ImmutableCollections$AbstractImmutableCollection" (some 11) with
  accessFlags := 1056
  interfaces := #[]
  cf := some (fileOf pool12 13 #[.nestHost 8] #[{ accessFlags := 0, nameIndex := 5, descriptorIndex := 6, attributes := #[] }] 1056 2 #[] #[])
  fields := #[]
  methods := #[k12m0]
  instanceTypes := #[]
  staticTypes := #[]
  resolved := Array.replicate 56 none
  statics := none }

def pool13 : Array CpInfo := pool [(1, .class_ 2), (0, u "java/util/RandomAccess"), (0, .class_ 4), (0, u "java/lang/Object")] 2

/-- java/util/RandomAccess -/
def k13 : Class := { plain "java/util/RandomAccess" (some 0) with
  accessFlags := 1537
  interfaces := #[]
  cf := some (fileOf pool13 1 #[] #[] 1537 3 #[] #[])
  fields := #[]
  methods := #[]
  instanceTypes := #[]
  staticTypes := #[]
  resolved := Array.replicate 7 none
  statics := none }

def pool14 : Array CpInfo := pool [(1, .methodref 2 3), (0, .class_ 4), (0, .nameAndType 5 6), (0, u "java/util/ImmutableCollections$AbstractImmutableCollection"), (0, u "<init>"), (0, u "()V"), (1, .class_ 10), (1, u "java/util/ImmutableCollections"), (3, .class_ 16), (1, u "java/util/ImmutableCollections$AbstractImmutableList"), (60, .class_ 78), (0, u "java/util/List"), (45, .class_ 125), (0, u "java/util/RandomAccess")] 70

def k14c0 : Code := { maxStack := 1, maxLocals := 1, code := jdk_46_method_1_code, exceptionTable := #[], attributes := #[] }
def k14m0 : Method := { name := "<init>", desc := "()V", sig := { parameters := [], returnType := none }, accessFlags := 0, code := some k14c0 }
/-- java/util/ImmutableCollections$AbstractImmutableList -/
def k14 : Class := { plain "java/util/ImmutableCollections$AbstractImmutableList" (some 12) with
  accessFlags := 1056
  interfaces := #[10, 13]
  cf := some (fileOf pool14 14 #[.nestHost 8] #[{ accessFlags := 0, nameIndex := 5, descriptorIndex := 6, attributes := #[] }] 1056 2 #[77, 124] #[])
  fields := #[]
  methods := #[k14m0]
  instanceTypes := #[]
  staticTypes := #[]
  resolved := Array.replicate 196 none
  statics := none }

def pool15 : Array CpInfo := pool [(1, .class_ 2), (0, u "java/io/Serializable"), (0, .class_ 4), (0, u "java/lang/Object")] 2

/-- java/io/Serializable -/
def k15 : Class := { plain "java/io/Serializable" (some 0) with
  accessFlags := 1537
  interfaces := #[]
  cf := some (fileOf pool15 1 #[] #[] 1537 3 #[] #[])
  fields := #[]
  methods := #[]
  instanceTypes := #[]
  staticTypes := #[]
  resolved := Array.replicate 7 none
  statics := none }

def pool16 : Array CpInfo := pool [(1, .methodref 2 3), (0, .class_ 4), (0, .nameAndType 5 6), (0, u "java/util/ImmutableCollections$AbstractImmutableList"), (0, u "<init>"), (0, u "()V"), (0, .methodref 8 9), (0, .class_ 10), (0, .nameAndType 11 12), (0, u "java/util/Objects"), (0, u "requireNonNull"), (0, u "(Ljava/lang/Object;)Ljava/lang/Object;"), (0, .fieldref 14 15), (0, .class_ 16), (0, .nameAndType 17 18), (0, u "java/util/ImmutableCollections$List12"), (0, u "e0"), (0, u "Ljava/lang/Object;"), (0, .fieldref 20 21), (0, .class_ 22), (0, .nameAndType 23 18), (0, u "java/util/ImmutableCollections"), (0, u "EMPTY"), (0, .fieldref 14 25), (0, .nameAndType 26 18), (0, u "e1"), (24, u "size"), (0, u "()I"), (17, .class_ 71), (0, u "java/io/Serializable"), (13, u "(Ljava/lang/Object;Ljava/lang/Object;)V"), (4, u "get"), (0, u "(I)Ljava/lang/Object;")] 33

def k16c0 : Code := { maxStack := 2, maxLocals := 3, code := jdk_44_method_2_code, exceptionTable := #[], attributes := #[] }
def k16m0 : Method := { name := "<init>", desc := "(Ljava/lang/Object;Ljava/lang/Object;)V", sig := { parameters := [(.object "java/lang/Object"), (.object "java/lang/Object")], returnType := none }, accessFlags := 0, code := some k16c0 }
def k16c1 : Code := { maxStack := 2, maxLocals := 1, code := jdk_44_method_3_code, exceptionTable := #[], attributes := #[] }
def k16m1 : Method := { name := "size", desc := "()I", sig := { parameters := [], returnType := some .int }, accessFlags := 1, code := some k16c1 }
def k16c2 : Code := { maxStack := 2, maxLocals := 2, code := jdk_44_method_5_code, exceptionTable := #[], attributes := #[] }
def k16m2 : Method := { name := "get", desc := "(I)Ljava/lang/Object;", sig := { parameters := [.int], returnType := some (.object "java/lang/Object") }, accessFlags := 1, code := some k16c2 }
/-- java/util/ImmutableCollections$List12 -/
def k16 : Class := { plain "java/util/ImmutableCollections$List12" (some 14) with
  accessFlags := 48
  interfaces := #[15]
  cf := some (fileOf pool16 14 #[.nestHost 20] #[{ accessFlags := 0, nameIndex := 5, descriptorIndex := 85, attributes := #[] }, { accessFlags := 1, nameIndex := 51, descriptorIndex := 52, attributes := #[] }, { accessFlags := 1, nameIndex := 90, descriptorIndex := 91, attributes := #[] }] 48 2 #[70] #[{ accessFlags := 18, nameIndex := 17, descriptorIndex := 18, attributes := #[] }, { accessFlags := 18, nameIndex := 26, descriptorIndex := 18, attributes := #[] }])
  fields := #[{ name := "e0", type := (.object "java/lang/Object"), accessFlags := 18, slot := 0, constantValue := 0 }, { name := "e1", type := (.object "java/lang/Object"), accessFlags := 18, slot := 1, constantValue := 0 }]
  methods := #[k16m0, k16m1, k16m2]
  instanceTypes := #[(.object "java/lang/Object"), (.object "java/lang/Object")]
  staticTypes := #[]
  resolved := Array.replicate 125 none
  statics := none }

def pool17 : Array CpInfo := pool [(2, .class_ 4), (1, u "java/lang/Object"), (0, u "<init>"), (0, u "()V"), (3, .class_ 11), (0, u "java/util/ImmutableCollections$List12"), (0, .class_ 13), (0, u "java/util/ImmutableCollections$ListN"), (3, u "Z"), (29, .class_ 49), (1, u "java/util/ImmutableCollections"), (0, u "$assertionsDisabled"), (5, u "[Ljava/lang/Object;"), (5, u "EMPTY_LIST"), (0, u "Ljava/util/ImmutableCollections$ListN;"), (8, u "EMPTY_LIST_NULLS"), (22, u "SALT32L"), (0, u "J"), (2, u "REVERSE"), (6, u "archivedObjects"), (2, u "EMPTY"), (0, u "Ljava/lang/Object;"), (0, .class_ 112), (0, u "java/util/ImmutableCollections$SetN"), (5, u "EMPTY_SET"), (0, u "Ljava/util/ImmutableCollections$SetN;"), (0, .class_ 121), (0, u "java/util/ImmutableCollections$MapN"), (3, u "EMPTY_MAP"), (0, u "Ljava/util/ImmutableCollections$MapN;"), (4, u "EXPAND_FACTOR"), (0, u "I"), (36, .class_ 170), (0, u "java/util/ImmutableCollections$MapN$MapNIterator"), (0, .class_ 172), (0, u "java/util/ImmutableCollections$MapN$1"), (0, .class_ 174), (0, u "java/util/ImmutableCollections$Map1"), (0, .class_ 176), (0, u "java/util/ImmutableCollections$AbstractImmutableMap"), (0, .class_ 178), (0, u "java/util/ImmutableCollections$SetN$SetNIterator"), (0, .class_ 180), (0, u "java/util/ImmutableCollections$Set12"), (0, .class_ 182), (0, u "java/util/ImmutableCollections$Set12$1"), (0, .class_ 184), (0, u "java/util/ImmutableCollections$AbstractImmutableSet"), (0, .class_ 186), (0, u "java/util/ImmutableCollections$SubList"), (0, .class_ 188), (0, u "java/util/ImmutableCollections$ListItr"), (0, .class_ 190), (0, u "java/util/ImmutableCollections$AbstractImmutableList"), (0, .class_ 192), (0, u "java/util/ImmutableCollections$AbstractImmutableCollection"), (0, .class_ 194), (0, u "java/util/ImmutableCollections$Access"), (0, .class_ 196), (0, u "java/util/ImmutableCollections$Access$1")] 16

def k17m0 : Method := { name := "<init>", desc := "()V", sig := { parameters := [], returnType := none }, accessFlags := 2, code := none }
/-- java/util/ImmutableCollections -/
def k17 : Class := { plain "java/util/ImmutableCollections" (some 0) with
  accessFlags := 32
  interfaces := #[]
  cf := some (fileOf pool17 47 #[.nestMembers #[120, 169, 171, 173, 175, 111, 177, 179, 181, 183, 12, 10, 185, 187, 189, 191, 193, 195]] #[{ accessFlags := 2, nameIndex := 5, descriptorIndex := 6, attributes := #[] }] 32 2 #[] #[{ accessFlags := 26, nameIndex := 95, descriptorIndex := 96, attributes := #[] }, { accessFlags := 26, nameIndex := 99, descriptorIndex := 17, attributes := #[] }, { accessFlags := 10, nameIndex := 106, descriptorIndex := 56, attributes := #[] }, { accessFlags := 26, nameIndex := 109, descriptorIndex := 110, attributes := #[] }, { accessFlags := 24, nameIndex := 62, descriptorIndex := 63, attributes := #[] }, { accessFlags := 24, nameIndex := 72, descriptorIndex := 63, attributes := #[] }, { accessFlags := 24, nameIndex := 118, descriptorIndex := 119, attributes := #[] }, { accessFlags := 24, nameIndex := 125, descriptorIndex := 126, attributes := #[] }, { accessFlags := 24, nameIndex := 131, descriptorIndex := 132, attributes := #[] }, { accessFlags := 4120, nameIndex := 50, descriptorIndex := 17, attributes := #[] }])
  fields := #[{ name := "SALT32L", type := .long, accessFlags := 26, slot := 0, constantValue := 0 }, { name := "REVERSE", type := .boolean, accessFlags := 26, slot := 1, constantValue := 0 }, { name := "archivedObjects", type := (.array (.object "java/lang/Object")), accessFlags := 10, slot := 2, constantValue := 0 }, { name := "EMPTY", type := (.object "java/lang/Object"), accessFlags := 26, slot := 3, constantValue := 0 }, { name := "EMPTY_LIST", type := (.object "java/util/ImmutableCollections$ListN"), accessFlags := 24, slot := 4, constantValue := 0 }, { name := "EMPTY_LIST_NULLS", type := (.object "java/util/ImmutableCollections$ListN"), accessFlags := 24, slot := 5, constantValue := 0 }, { name := "EMPTY_SET", type := (.object "java/util/ImmutableCollections$SetN"), accessFlags := 24, slot := 6, constantValue := 0 }, { name := "EMPTY_MAP", type := (.object "java/util/ImmutableCollections$MapN"), accessFlags := 24, slot := 7, constantValue := 0 }, { name := "EXPAND_FACTOR", type := .int, accessFlags := 24, slot := 8, constantValue := 0 }, { name := "$assertionsDisabled", type := .boolean, accessFlags := 4120, slot := 9, constantValue := 0 }]
  methods := #[k17m0]
  instanceTypes := #[]
  staticTypes := #[.long, .boolean, (.array (.object "java/lang/Object")), (.object "java/lang/Object"), (.object "java/util/ImmutableCollections$ListN"), (.object "java/util/ImmutableCollections$ListN"), (.object "java/util/ImmutableCollections$SetN"), (.object "java/util/ImmutableCollections$MapN"), .int, .boolean]
  resolved := Array.replicate 213 none
  statics := some 0 }

def pool18 : Array CpInfo := pool [(1, .class_ 2), (0, u "java/lang/Math"), (1, .class_ 6), (1, u "java/lang/Object"), (0, u "<init>"), (0, u "()V"), (89, .class_ 100), (1, u "java/lang/Math$RandomNumberGeneratorHolder"), (71, u "negativeZeroFloatBits"), (0, u "J"), (2, u "negativeZeroDoubleBits"), (21, u "max"), (2, u "min"), (43, u "$assertionsDisabled"), (0, u "Z"), (88, u "(II)I"), (2, u "twoToTheDoubleScaleDown"), (0, u "D"), (4, u "twoToTheDoubleScaleUp"), (9, u "E"), (3, u "PI"), (2, u "TAU"), (2, u "DEGREES_TO_RADIANS"), (0, u "RADIANS_TO_DEGREES")] 94

def k18m0 : Method := { name := "<init>", desc := "()V", sig := { parameters := [], returnType := none }, accessFlags := 2, code := none }
def k18c1 : Code := { maxStack := 2, maxLocals := 2, code := jdk_29_method_65_code, exceptionTable := #[], attributes := #[] }
def k18m1 : Method := { name := "max", desc := "(II)I", sig := { parameters := [.int, .int], returnType := some .int }, accessFlags := 9, code := some k18c1 }
def k18c2 : Code := { maxStack := 2, maxLocals := 2, code := jdk_29_method_69_code, exceptionTable := #[], attributes := #[] }
def k18m2 : Method := { name := "min", desc := "(II)I", sig := { parameters := [.int, .int], returnType := some .int }, accessFlags := 9, code := some k18c2 }
/-- java/lang/Math -/
def k18 : Class := { plain "java/lang/Math" (some 0) with
  accessFlags := 49
  interfaces := #[]
  cf := some (fileOf pool18 1 #[.nestMembers #[98]] #[{ accessFlags := 2, nameIndex := 7, descriptorIndex := 8, attributes := #[] }, { accessFlags := 9, nameIndex := 198, descriptorIndex := 335, attributes := #[] }, { accessFlags := 9, nameIndex := 201, descriptorIndex := 335, attributes := #[] }] 49 4 #[] #[{ accessFlags := 25, nameIndex := 354, descriptorIndex := 339, attributes := #[] }, { accessFlags := 25, nameIndex := 358, descriptorIndex := 339, attributes := #[] }, { accessFlags := 25, nameIndex := 361, descriptorIndex := 339, attributes := #[] }, { accessFlags := 26, nameIndex := 364, descriptorIndex := 339, attributes := #[] }, { accessFlags := 26, nameIndex := 365, descriptorIndex := 339, attributes := #[] }, { accessFlags := 26, nameIndex := 172, descriptorIndex := 173, attributes := #[] }, { accessFlags := 26, nameIndex := 176, descriptorIndex := 173, attributes := #[] }, { accessFlags := 8, nameIndex := 344, descriptorIndex := 339, attributes := #[] }, { accessFlags := 8, nameIndex := 338, descriptorIndex := 339, attributes := #[] }, { accessFlags := 4120, nameIndex := 245, descriptorIndex := 246, attributes := #[] }])
  fields := #[{ name := "E", type := .double, accessFlags := 25, slot := 0, constantValue := 0 }, { name := "PI", type := .double, accessFlags := 25, slot := 1, constantValue := 0 }, { name := "TAU", type := .double, accessFlags := 25, slot := 2, constantValue := 0 }, { name := "DEGREES_TO_RADIANS", type := .double, accessFlags := 26, slot := 3, constantValue := 0 }, { name := "RADIANS_TO_DEGREES", type := .double, accessFlags := 26, slot := 4, constantValue := 0 }, { name := "negativeZeroFloatBits", type := .long, accessFlags := 26, slot := 5, constantValue := 0 }, { name := "negativeZeroDoubleBits", type := .long, accessFlags := 26, slot := 6, constantValue := 0 }, { name := "twoToTheDoubleScaleUp", type := .double, accessFlags := 8, slot := 7, constantValue := 0 }, { name := "twoToTheDoubleScaleDown", type := .double, accessFlags := 8, slot := 8, constantValue := 0 }, { name := "$assertionsDisabled", type := .boolean, accessFlags := 4120, slot := 9, constantValue := 0 }]
  methods := #[k18m0, k18m1, k18m2]
  instanceTypes := #[]
  staticTypes := #[.double, .double, .double, .double, .double, .long, .long, .double, .double, .boolean]
  resolved := Array.replicate 460 none
  statics := none }

def pool19 : Array CpInfo := pool [(2, .class_ 4), (1, u "java/util/ImmutableCollections$AbstractImmutableList"), (3, .class_ 10), (1, u "java/util/ImmutableCollections$ListN"), (0, u "elements"), (0, u "[Ljava/lang/Object;"), (2, u "allowNulls"), (0, u "Z"), (42, .class_ 60), (0, u "java/io/Serializable"), (53, .class_ 115), (0, u "java/util/ImmutableCollections")] 3

/-- java/util/ImmutableCollections$ListN -/
def k19 : Class := { plain "java/util/ImmutableCollections$ListN" (some 14) with
  accessFlags := 48
  interfaces := #[15]
  cf := some (fileOf pool19 8 #[.nestHost 114] #[] 48 2 #[59] #[{ accessFlags := 18, nameIndex := 11, descriptorIndex := 12, attributes := #[] }, { accessFlags := 18, nameIndex := 15, descriptorIndex := 16, attributes := #[] }])
  fields := #[{ name := "elements", type := (.array (.object "java/lang/Object")), accessFlags := 18, slot := 0, constantValue := 0 }, { name := "allowNulls", type := .boolean, accessFlags := 18, slot := 1, constantValue := 0 }]
  methods := #[]
  instanceTypes := #[(.array (.object "java/lang/Object")), .boolean]
  staticTypes := #[]
  resolved := Array.replicate 119 none
  statics := none }

def pool20 : Array CpInfo := pool [(1, u "java/lang/Cloneable"), (0, .class_ 1), (0, u "java/lang/Object"), (0, .class_ 3)] 3

/-- java/lang/Cloneable -/
def k20 : Class := { plain "java/lang/Cloneable" (some 0) with
  accessFlags := 1537
  interfaces := #[]
  cf := some (fileOf pool20 2 #[] #[] 1537 4 #[] #[])
  fields := #[]
  methods := #[]
  instanceTypes := #[]
  staticTypes := #[]
  resolved := Array.replicate 8 none
  statics := none }

/-- the primitive byte -/
def k21 : Class := { plain "byte" none with kind := .primitive 'B', accessFlags := 0x411 }
/-- [B -/
def k22 : Class := { plain "[B" (some 0) with kind := .array 21 .byte, interfaces := #[20, 15], accessFlags := 1041 }

/-- the primitive int -/
def k23 : Class := { plain "int" none with kind := .primitive 'I', accessFlags := 0x411 }
/-- [I -/
def k24 : Class := { plain "[I" (some 0) with kind := .array 23 .int, interfaces := #[20, 15], accessFlags := 1041 }

def heap : Heap := #[{ cls := 17, slots := #[.long 0, .int 0, .null, .ref 1, .ref 2, .null, .null, .null, .int 0, .int 1], vm := .statics 17 },
  { cls := 0, slots := #[], vm := .none },
  { cls := 19, slots := #[.null, .int 0], vm := .none }]
def classes : Array Class := #[k0, k1, k2, k3, k4, k5, k6, k7, k8, k9, k10, k11, k12, k13, k14, k15, k16, k17, k18, k19, k20, k21, k22, k23, k24]
def interned : List (Array UInt16 × Addr) := []
def slotsUsed : Nat := 12
def theMethod : MethodId := ⟨1, 1⟩
def args0 : Array Value := #[.int 5, .int 5, .int 5, .int 5]
def aboutOver (below : List Frame) : State where
  vm := { classes := classes, interned := interned.toArray }
  heap := heap
  slotsUsed := slotsUsed
  threads := #[{ frames := .invoking theMethod args0 :: below }]
def below0 : List Frame := [.native { method := ⟨0, 0⟩, args := #[] }]
def about1 : State := aboutOver below0
def p0 : Program := .bare "" "" ""
def e0 : Env := launch0.env 0 0 0
theorem w_frames : about1.frames = Frame.invoking theMethod args0 :: below0 := rfl
set_option maxRecDepth 65536 in
theorem w_args : argsFit about1.vm theMethod args0 = true := by decide +kernel
set_option maxRecDepth 65536 in
theorem w_heap : heapFits about1 = true := by decide +kernel
set_option maxRecDepth 65536 in
theorem w_runnable : about1.curStatus? = some .runnable := by decide +kernel
set_option maxRecDepth 65536 in
theorem w_alone : about1.alone = true := by decide +kernel
set_option maxRecDepth 65536 in
theorem w_named : about1.methodNamed? x = some theMethod := by decide +kernel
set_option maxRecDepth 65536 in
theorem w_hears : about1.hears theMethod below0 = true := by decide +kernel
set_option maxRecDepth 65536 in
theorem w_ripe : about1.ripe theMethod args0 below0 = true := by decide +kernel
theorem w_running : about1.status = .running := rfl
set_option maxRecDepth 65536 in
theorem w_room : about1.hasRoom e0.platform room_1 = true :=
  launch0.hasRoom_least _ room_1 (by decide +kernel) (by decide +kernel) (by decide +kernel) (by decide +kernel) (by decide +kernel) (by decide +kernel)
theorem allAtoms_all (ts : List Jvm.Cond) (a : Array Jvm.Value) (st : Jvm.State) : (allAtoms ts).before a st = ts.all (fun c => c.before a st) := by
  induction ts with
  | nil => rfl
  | cons c t ih =>
    show (Jvm.Cond.and c (allAtoms t)).before a st = _
    rw [Jvm.Cond.before_and, ih, List.all_cons]
def words1 : List Jvm.Cond := Jvm.Cond.code x code maxLocals ret :: tables_1
/-- a 'code' word, met by the world's own term for the bytes: nothing is compared byte by byte -/
theorem code_word {y : MethodName} {bytes : ByteArray} {mx : Nat} {rt : Option FieldType} {a : Array Value} {s : State} {m : MethodId} {meth : Method} {c : Code} (h1 : s.methodNamed? y = some m) (h2 : s.vm.method? m = some meth) (h3 : meth.code = some c) (h4 : c.code = bytes)
    (h5 : (c.maxLocals == mx && c.exceptionTable.isEmpty && decide (c.maxStack ≤ mostOperands) && decide (meth.sig.returnType = rt) && !meth.locks && decide (parseMethodDescriptor y.desc = some meth.sig)) = true) : (Jvm.Cond.code y bytes mx rt).before a s = true := by
  simp only [Bool.and_eq_true, beq_iff_eq, Bool.not_eq_true', decide_eq_true_eq] at h5
  obtain ⟨⟨⟨⟨⟨g1, g2⟩, g3⟩, g4⟩, g5⟩, g6⟩ := h5
  simp [Cond.before, Cond.holds, Cond.value, h1, h2, h3, h4, g1, g2, g3, g4, g5, g6]
def isCode : Jvm.Cond → Bool
  | .code _ _ _ _ => true
  | _ => false
theorem all_split {L : List Jvm.Cond} {P : Jvm.Cond → Bool} (h1 : L.all (fun c => isCode c || P c) = true) (h2 : ∀ c ∈ L.filter isCode, P c = true) : L.all P = true := by
  refine List.all_eq_true.mpr fun c hc => ?_
  have h := List.all_eq_true.mp h1 c hc
  rcases Bool.eq_false_or_eq_true (isCode c) with hi | hi
  · exact h2 c (List.mem_filter.mpr ⟨hc, hi⟩)
  · simpa [hi] using h
set_option maxRecDepth 65536 in
theorem w_c0 : (Jvm.Cond.code x code maxLocals ret).before args0 about1 = true := code_word (m := ⟨1, 1⟩) (meth := k1m1) (c := k1c1) (by decide +kernel) rfl rfl rfl (by decide +kernel)
set_option maxRecDepth 65536 in
theorem w_c1 : (Jvm.Cond.code ({ cls := "com/example/kostyashki/kostyashki/tiles/Tile", name := "<init>", desc := "(II)V" } : Jvm.MethodName) prog_60_method_1_code (4 : Nat) (Option.none : Option Jvm.ClassFile.FieldType)).before args0 about1 = true := code_word (m := ⟨3, 0⟩) (meth := k3m0) (c := k3c0) (by decide +kernel) rfl rfl rfl (by decide +kernel)
set_option maxRecDepth 65536 in
theorem w_c2 : (Jvm.Cond.code ({ cls := "java/lang/Record", name := "<init>", desc := "()V" } : Jvm.MethodName) jdk_30_method_1_code (1 : Nat) (Option.none : Option Jvm.ClassFile.FieldType)).before args0 about1 = true := code_word (m := ⟨2, 0⟩) (meth := k2m0) (c := k2c0) (by decide +kernel) rfl rfl rfl (by decide +kernel)
set_option maxRecDepth 65536 in
theorem w_c3 : (Jvm.Cond.code ({ cls := "java/lang/Object", name := "<init>", desc := "()V" } : Jvm.MethodName) object_method_1_code (1 : Nat) (Option.none : Option Jvm.ClassFile.FieldType)).before args0 about1 = true := code_word (m := ⟨0, 0⟩) (meth := k0m0) (c := k0c0) (by decide +kernel) rfl rfl rfl (by decide +kernel)
set_option maxRecDepth 65536 in
theorem w_c4 : (Jvm.Cond.code ({ cls := "com/example/kostyashki/kostyashki/round/BothEnds", name := "<init>", desc := "(Lcom/example/kostyashki/kostyashki/tiles/Tile;Lcom/example/kostyashki/kostyashki/tiles/Tile;)V" } : Jvm.MethodName) prog_44_method_1_code (3 : Nat) (Option.none : Option Jvm.ClassFile.FieldType)).before args0 about1 = true := code_word (m := ⟨5, 0⟩) (meth := k5m0) (c := k5c0) (by decide +kernel) rfl rfl rfl (by decide +kernel)
set_option maxRecDepth 65536 in
theorem w_c5 : (Jvm.Cond.code ({ cls := "java/util/Objects", name := "requireNonNull", desc := "(Ljava/lang/Object;)Ljava/lang/Object;" } : Jvm.MethodName) jdk_31_method_10_code (1 : Nat) (Option.some (Jvm.ClassFile.FieldType.object "java/lang/Object"))).before args0 about1 = true := code_word (m := ⟨6, 1⟩) (meth := k6m1) (c := k6c1) (by decide +kernel) rfl rfl rfl (by decide +kernel)
set_option maxRecDepth 65536 in
theorem w_c6 : (Jvm.Cond.code ({ cls := "com/example/kostyashki/kostyashki/round/BothEnds", name := "tiles", desc := "()Ljava/util/List;" } : Jvm.MethodName) prog_44_method_2_code (1 : Nat) (Option.some (Jvm.ClassFile.FieldType.object "java/util/List"))).before args0 about1 = true := code_word (m := ⟨5, 1⟩) (meth := k5m1) (c := k5c1) (by decide +kernel) rfl rfl rfl (by decide +kernel)
set_option maxRecDepth 65536 in
theorem w_c7 : (Jvm.Cond.code ({ cls := "java/util/List", name := "of", desc := "(Ljava/lang/Object;Ljava/lang/Object;)Ljava/util/List;" } : Jvm.MethodName) jdk_40_method_38_code (2 : Nat) (Option.some (Jvm.ClassFile.FieldType.object "java/util/List"))).before args0 about1 = true := code_word (m := ⟨10, 2⟩) (meth := k10m2) (c := k10c2) (by decide +kernel) rfl rfl rfl (by decide +kernel)
set_option maxRecDepth 65536 in
theorem w_c8 : (Jvm.Cond.code ({ cls := "java/util/ImmutableCollections$List12", name := "<init>", desc := "(Ljava/lang/Object;Ljava/lang/Object;)V" } : Jvm.MethodName) jdk_44_method_2_code (3 : Nat) (Option.none : Option Jvm.ClassFile.FieldType)).before args0 about1 = true := code_word (m := ⟨16, 0⟩) (meth := k16m0) (c := k16c0) (by decide +kernel) rfl rfl rfl (by decide +kernel)
set_option maxRecDepth 65536 in
theorem w_c9 : (Jvm.Cond.code ({ cls := "java/util/ImmutableCollections$AbstractImmutableList", name := "<init>", desc := "()V" } : Jvm.MethodName) jdk_46_method_1_code (1 : Nat) (Option.none : Option Jvm.ClassFile.FieldType)).before args0 about1 = true := code_word (m := ⟨14, 0⟩) (meth := k14m0) (c := k14c0) (by decide +kernel) rfl rfl rfl (by decide +kernel)
set_option maxRecDepth 65536 in
theorem w_c10 : (Jvm.Cond.code ({ cls := "java/util/ImmutableCollections$AbstractImmutableCollection", name := "<init>", desc := "()V" } : Jvm.MethodName) jdk_47_method_1_code (1 : Nat) (Option.none : Option Jvm.ClassFile.FieldType)).before args0 about1 = true := code_word (m := ⟨12, 0⟩) (meth := k12m0) (c := k12c0) (by decide +kernel) rfl rfl rfl (by decide +kernel)
set_option maxRecDepth 65536 in
theorem w_c11 : (Jvm.Cond.code ({ cls := "java/util/AbstractCollection", name := "<init>", desc := "()V" } : Jvm.MethodName) jdk_22_method_1_code (1 : Nat) (Option.none : Option Jvm.ClassFile.FieldType)).before args0 about1 = true := code_word (m := ⟨11, 0⟩) (meth := k11m0) (c := k11c0) (by decide +kernel) rfl rfl rfl (by decide +kernel)
set_option maxRecDepth 65536 in
theorem w_c12 : (Jvm.Cond.code ({ cls := "java/util/ImmutableCollections$List12", name := "size", desc := "()I" } : Jvm.MethodName) jdk_44_method_3_code (1 : Nat) (Option.some Jvm.ClassFile.FieldType.int)).before args0 about1 = true := code_word (m := ⟨16, 1⟩) (meth := k16m1) (c := k16c1) (by decide +kernel) rfl rfl rfl (by decide +kernel)
set_option maxRecDepth 65536 in
theorem w_c13 : (Jvm.Cond.code ({ cls := "java/util/ImmutableCollections$List12", name := "get", desc := "(I)Ljava/lang/Object;" } : Jvm.MethodName) jdk_44_method_5_code (2 : Nat) (Option.some (Jvm.ClassFile.FieldType.object "java/lang/Object"))).before args0 about1 = true := code_word (m := ⟨16, 2⟩) (meth := k16m2) (c := k16c2) (by decide +kernel) rfl rfl rfl (by decide +kernel)
set_option maxRecDepth 65536 in
theorem w_c14 : (Jvm.Cond.code ({ cls := "com/example/kostyashki/kostyashki/tiles/Tile", name := "low", desc := "()I" } : Jvm.MethodName) prog_60_method_11_code (1 : Nat) (Option.some Jvm.ClassFile.FieldType.int)).before args0 about1 = true := code_word (m := ⟨3, 1⟩) (meth := k3m1) (c := k3c1) (by decide +kernel) rfl rfl rfl (by decide +kernel)
set_option maxRecDepth 65536 in
theorem w_c15 : (Jvm.Cond.code ({ cls := "java/lang/Math", name := "min", desc := "(II)I" } : Jvm.MethodName) jdk_29_method_69_code (2 : Nat) (Option.some Jvm.ClassFile.FieldType.int)).before args0 about1 = true := code_word (m := ⟨18, 2⟩) (meth := k18m2) (c := k18c2) (by decide +kernel) rfl rfl rfl (by decide +kernel)
set_option maxRecDepth 65536 in
theorem w_c16 : (Jvm.Cond.code ({ cls := "com/example/kostyashki/kostyashki/tiles/Tile", name := "high", desc := "()I" } : Jvm.MethodName) prog_60_method_12_code (1 : Nat) (Option.some Jvm.ClassFile.FieldType.int)).before args0 about1 = true := code_word (m := ⟨3, 2⟩) (meth := k3m2) (c := k3c2) (by decide +kernel) rfl rfl rfl (by decide +kernel)
set_option maxRecDepth 65536 in
theorem w_c17 : (Jvm.Cond.code ({ cls := "java/lang/Math", name := "max", desc := "(II)I" } : Jvm.MethodName) jdk_29_method_65_code (2 : Nat) (Option.some Jvm.ClassFile.FieldType.int)).before args0 about1 = true := code_word (m := ⟨18, 1⟩) (meth := k18m1) (c := k18c1) (by decide +kernel) rfl rfl rfl (by decide +kernel)
def codes1 : List Jvm.Cond := [Jvm.Cond.code x code maxLocals ret, Jvm.Cond.code ({ cls := "com/example/kostyashki/kostyashki/tiles/Tile", name := "<init>", desc := "(II)V" } : Jvm.MethodName) prog_60_method_1_code (4 : Nat) (Option.none : Option Jvm.ClassFile.FieldType), Jvm.Cond.code ({ cls := "java/lang/Record", name := "<init>", desc := "()V" } : Jvm.MethodName) jdk_30_method_1_code (1 : Nat) (Option.none : Option Jvm.ClassFile.FieldType), Jvm.Cond.code ({ cls := "java/lang/Object", name := "<init>", desc := "()V" } : Jvm.MethodName) object_method_1_code (1 : Nat) (Option.none : Option Jvm.ClassFile.FieldType), Jvm.Cond.code ({ cls := "com/example/kostyashki/kostyashki/round/BothEnds", name := "<init>", desc := "(Lcom/example/kostyashki/kostyashki/tiles/Tile;Lcom/example/kostyashki/kostyashki/tiles/Tile;)V" } : Jvm.MethodName) prog_44_method_1_code (3 : Nat) (Option.none : Option Jvm.ClassFile.FieldType), Jvm.Cond.code ({ cls := "java/util/Objects", name := "requireNonNull", desc := "(Ljava/lang/Object;)Ljava/lang/Object;" } : Jvm.MethodName) jdk_31_method_10_code (1 : Nat) (Option.some (Jvm.ClassFile.FieldType.object "java/lang/Object")), Jvm.Cond.code ({ cls := "com/example/kostyashki/kostyashki/round/BothEnds", name := "tiles", desc := "()Ljava/util/List;" } : Jvm.MethodName) prog_44_method_2_code (1 : Nat) (Option.some (Jvm.ClassFile.FieldType.object "java/util/List")), Jvm.Cond.code ({ cls := "java/util/List", name := "of", desc := "(Ljava/lang/Object;Ljava/lang/Object;)Ljava/util/List;" } : Jvm.MethodName) jdk_40_method_38_code (2 : Nat) (Option.some (Jvm.ClassFile.FieldType.object "java/util/List")), Jvm.Cond.code ({ cls := "java/util/ImmutableCollections$List12", name := "<init>", desc := "(Ljava/lang/Object;Ljava/lang/Object;)V" } : Jvm.MethodName) jdk_44_method_2_code (3 : Nat) (Option.none : Option Jvm.ClassFile.FieldType), Jvm.Cond.code ({ cls := "java/util/ImmutableCollections$AbstractImmutableList", name := "<init>", desc := "()V" } : Jvm.MethodName) jdk_46_method_1_code (1 : Nat) (Option.none : Option Jvm.ClassFile.FieldType), Jvm.Cond.code ({ cls := "java/util/ImmutableCollections$AbstractImmutableCollection", name := "<init>", desc := "()V" } : Jvm.MethodName) jdk_47_method_1_code (1 : Nat) (Option.none : Option Jvm.ClassFile.FieldType), Jvm.Cond.code ({ cls := "java/util/AbstractCollection", name := "<init>", desc := "()V" } : Jvm.MethodName) jdk_22_method_1_code (1 : Nat) (Option.none : Option Jvm.ClassFile.FieldType), Jvm.Cond.code ({ cls := "java/util/ImmutableCollections$List12", name := "size", desc := "()I" } : Jvm.MethodName) jdk_44_method_3_code (1 : Nat) (Option.some Jvm.ClassFile.FieldType.int), Jvm.Cond.code ({ cls := "java/util/ImmutableCollections$List12", name := "get", desc := "(I)Ljava/lang/Object;" } : Jvm.MethodName) jdk_44_method_5_code (2 : Nat) (Option.some (Jvm.ClassFile.FieldType.object "java/lang/Object")), Jvm.Cond.code ({ cls := "com/example/kostyashki/kostyashki/tiles/Tile", name := "low", desc := "()I" } : Jvm.MethodName) prog_60_method_11_code (1 : Nat) (Option.some Jvm.ClassFile.FieldType.int), Jvm.Cond.code ({ cls := "java/lang/Math", name := "min", desc := "(II)I" } : Jvm.MethodName) jdk_29_method_69_code (2 : Nat) (Option.some Jvm.ClassFile.FieldType.int), Jvm.Cond.code ({ cls := "com/example/kostyashki/kostyashki/tiles/Tile", name := "high", desc := "()I" } : Jvm.MethodName) prog_60_method_12_code (1 : Nat) (Option.some Jvm.ClassFile.FieldType.int), Jvm.Cond.code ({ cls := "java/lang/Math", name := "max", desc := "(II)I" } : Jvm.MethodName) jdk_29_method_65_code (2 : Nat) (Option.some Jvm.ClassFile.FieldType.int)]
set_option maxRecDepth 65536 in
theorem codes_eq : words1.filter isCode = codes1 := rfl
theorem w_codes : ∀ c ∈ words1.filter isCode, c.before args0 about1 = true := by
  rw [codes_eq]
  intro c hc
  simp only [codes1, List.mem_cons, List.not_mem_nil, or_false] at hc
  rcases hc with rfl | rfl | rfl | rfl | rfl | rfl | rfl | rfl | rfl | rfl | rfl | rfl | rfl | rfl | rfl | rfl | rfl | rfl
  · exact w_c0
  · exact w_c1
  · exact w_c2
  · exact w_c3
  · exact w_c4
  · exact w_c5
  · exact w_c6
  · exact w_c7
  · exact w_c8
  · exact w_c9
  · exact w_c10
  · exact w_c11
  · exact w_c12
  · exact w_c13
  · exact w_c14
  · exact w_c15
  · exact w_c16
  · exact w_c17
set_option maxRecDepth 65536 in
theorem w_t1 : (words1.take 24).all (fun c => isCode c || c.before args0 about1) = true := by decide +kernel
set_option maxRecDepth 65536 in
theorem w_t2 : ((words1.drop 24).take 24).all (fun c => isCode c || c.before args0 about1) = true := by decide +kernel
set_option maxRecDepth 65536 in
theorem w_t3 : (((words1.drop 24).drop 24).take 24).all (fun c => isCode c || c.before args0 about1) = true := by decide +kernel
set_option maxRecDepth 65536 in
theorem w_t4 : ((((words1.drop 24).drop 24).drop 24).take 24).all (fun c => isCode c || c.before args0 about1) = true := by decide +kernel
set_option maxRecDepth 65536 in
theorem w_t5 : ((((words1.drop 24).drop 24).drop 24).drop 24).all (fun c => isCode c || c.before args0 about1) = true := by decide +kernel
theorem w_tables : (allAtoms (Jvm.Cond.code x code maxLocals ret :: tables_1)).before args0 about1 = true := by
  rw [allAtoms_all]
  show words1.all (fun c => c.before args0 about1) = true
  refine all_split ?_ w_codes
  rw [← List.take_append_drop 24 words1, List.all_append, w_t1, ← List.take_append_drop 24 (words1.drop 24), List.all_append, w_t2, ← List.take_append_drop 24 ((words1.drop 24).drop 24), List.all_append, w_t3, ← List.take_append_drop 24 (((words1.drop 24).drop 24).drop 24), List.all_append, w_t4, w_t5]
  rfl
set_option maxRecDepth 65536 in
theorem w_rest : rest_1_c.before args0 about1 = true := by decide +kernel
set_option maxRecDepth 65536 in
theorem w_case : (Jvm.Cond.and given_1 narrow_1).before args0 about1 = true := by decide +kernel
theorem w_applies : (headSpec (Jvm.Cond.code x code maxLocals ret :: tables_1) room_1).applies x e0.platform about1 = true :=
  (Spec.applies_iff w_frames).mpr ⟨w_running, w_runnable, w_alone, w_named, w_hears, w_ripe, w_room, w_tables⟩
theorem atStart : AtStart classFile x code maxLocals ret World_1 tables_1 room_1 Calls_1 rest_1 Pre_1 launch0 p0 e0 about1 theMethod args0 below0 :=
  ⟨lists_1, trivial, launch0.admits_env _ _ _, launch0.least_env, fairChoices_fair.cas, fairChoices_fair.clock, w_frames, w_args, w_heap, w_applies, trivial, w_rest, w_case⟩
end start1
theorem witness_1 : WitnessClaimed_1 := ⟨start1.p0, start1.e0, start1.about1, start1.theMethod, start1.args0, start1.below0, start1.atStart⟩
end Jvm.Pilot.@@N@@
