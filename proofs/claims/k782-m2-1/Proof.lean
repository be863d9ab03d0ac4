import JvmDerived
import JvmDerived.Pilot.@@N@@Statement
import JvmDerived.Pilot.@@N@@Code
set_option linter.unusedVariables false
set_option linter.unusedSimpArgs false
namespace Jvm.Pilot.@@N@@
open Jvm Jvm.ClassFile Sem Op Lib Jvm.Free Jvm.Stand Jvm.LawKit Jvm.RoadKit Bundle Jvm.Pilot.@@N@@.Jvm.D
section Own
variable {p : Program} {l : Launch} {e : Env} {R : Room} {s : State} {m : MethodId} {args : Array Value} {below : List Frame} {meth : Method} {c : Code} {T T' : State} {locs : List Loc} {cells slots : Nat} {QQ : Option Value → Heap → List Loc → Prop} {kc ks : Nat} {f f' : JFrame}
/-- from here the run comes to the method's return, with what QQ says -/
def own_Goes (p : Program) (e : Env) (below : List Frame) (s : State) (QQ : Option Value → Heap → List Loc → Prop) (kc ks : Nat) (T : State) (f : JFrame) : Prop :=
  ∃ s₂ o, Steps p.tables e below (T.setTop f) s₂ ∧ s₂.status = .running ∧ Ended s₂ below o ∧ ∃ v L, o = .returned v ∧ QQ v s₂.heap L ∧ FrameEnd s o s₂ L kc ks
theorem own_step (st : ∀ target, Steps p.tables e below (T'.setTop f') target → Steps p.tables e below (T.setTop f) target) (h : own_Goes p e below s QQ kc ks T' f') : own_Goes p e below s QQ kc ks T f := by
  obtain ⟨s₂, o, h1, r⟩ := h
  exact ⟨s₂, o, st _ h1, r⟩
theorem own_jump (st : Steps p.tables e below (T.setTop f) (T'.setTop f')) (h : own_Goes p e below s QQ kc ks T' f') : own_Goes p e below s QQ kc ks T f := by
  obtain ⟨s₂, o, h1, r⟩ := h
  exact ⟨s₂, o, st.trans h1, r⟩
theorem own_out {v : Option Value} (X : Stand p l e R s m args below meth c T locs cells slots) (hlk : meth.locks = false) (hv : meth.sig.returnType = none → v = none)
    (st : ∀ fs, (∀ (f : JFrame) (acts : List Action), f.method = m → f.locked = none → f.entered = [] → (doReturn e (T.setTop f) acts v).1 = T.setFrames fs) → Steps p.tables e below (T.setTop f) (T.setFrames fs)) (hc : cells ≤ kc) (hs : slots ≤ ks) (hq : QQ v T.heap locs) : own_Goes p e below s QQ kc ks T f := by
  obtain ⟨fs, hr, hrun, hended, hW, hsame⟩ := X.leave (v := v) hv hlk
  exact ⟨_, _, st fs hr, hrun, hended, v, locs, rfl, hq, ⟨_, rfl⟩, hW, hsame.mono hc hs⟩
theorem own_staKeep {Z : State} {h h' : Heap} {C n d : String} {v : Value} {ws : List Addr} (F : Sta Z h C n d v) (K : Keep h h' ws) (q : ∀ x ∈ ws, ∃ cell : Cell, h[x]? = some cell ∧ cell.vm.isStatics = false) : Sta Z h' C n d v := by
  obtain ⟨cf, i, k, f, st, cell, h1, h2, h3, h4, h5, h6, h7⟩ := F
  refine ⟨cf, i, k, f, st, cell, h1, h2, h3, h4, K.2.1 st cell h5 (fun z => ?_), h6, h7⟩
  obtain ⟨c', g1, g2⟩ := q st z
  rw [h5] at g1
  cases g1
  rw [h6] at g2
  cases g2
theorem own_exaNS {Z : State} {h : Heap} {a : Addr} {C : String} (F : Exa Z h a C) : ∃ cell : Cell, h[a]? = some cell ∧ cell.vm.isStatics = false := by
  obtain ⟨cell, k, h1, -, -, h4, -⟩ := F
  exact ⟨cell, h1, h4⟩
end Own
def own_ws (x : Int32) : Int32 := if x = (32 : Int32) then 1 else if x = (9 : Int32) then 1 else if x = (13 : Int32) then 1 else if x = (10 : Int32) then 1 else 0
theorem d1_0 : decode prog_19_method_3_code 0 = .ok (.iload_n 0, 1) := by decide +kernel
theorem d1_1 : decode prog_19_method_3_code 1 = .ok (.bipush 32, 2) := by decide +kernel
theorem d1_3 : decode prog_19_method_3_code 3 = .ok (.if_icmp .eq 21, 3) := by decide +kernel
theorem d1_6 : decode prog_19_method_3_code 6 = .ok (.iload_n 0, 1) := by decide +kernel
theorem d1_7 : decode prog_19_method_3_code 7 = .ok (.bipush 9, 2) := by decide +kernel
theorem d1_9 : decode prog_19_method_3_code 9 = .ok (.if_icmp .eq 15, 3) := by decide +kernel
theorem d1_12 : decode prog_19_method_3_code 12 = .ok (.iload_n 0, 1) := by decide +kernel
theorem d1_13 : decode prog_19_method_3_code 13 = .ok (.bipush 13, 2) := by decide +kernel
theorem d1_15 : decode prog_19_method_3_code 15 = .ok (.if_icmp .eq 9, 3) := by decide +kernel
theorem d1_18 : decode prog_19_method_3_code 18 = .ok (.iload_n 0, 1) := by decide +kernel
theorem d1_19 : decode prog_19_method_3_code 19 = .ok (.bipush 10, 2) := by decide +kernel
theorem d1_21 : decode prog_19_method_3_code 21 = .ok (.if_icmp .ne 7, 3) := by decide +kernel
theorem d1_24 : decode prog_19_method_3_code 24 = .ok (.iconst 1, 1) := by decide +kernel
theorem d1_25 : decode prog_19_method_3_code 25 = .ok (.goto 4, 3) := by decide +kernel
theorem d1_28 : decode prog_19_method_3_code 28 = .ok (.iconst 0, 1) := by decide +kernel
theorem d1_29 : decode prog_19_method_3_code 29 = .ok (.ireturn, 1) := by decide +kernel
theorem pn_0 : plainName "com/example/fpi_to_urn/fpitourn/Whitespace" = true := by first | (simp [plainName, overriddenIn]; done) | decide +kernel
theorem ef_1 (m : MethodId) (x0 : Int32) : entryFrame m #[(.int x0)] 1 = mkF m 0 #[.val (.int x0)] [] := by first | (simp [entryFrame, mkF, argsToLocals, Value.category]; done) | rfl
def Q1 (Z : State) (p1 : Int32) (h0 : Heap) (n0 : Nat) (v : Option Value) (h : Heap) (L : List Loc) : Prop := v = some (.int (own_ws p1)) ∧ L = [] ∧ h = h0
abbrev R1 : Room := { frames := 0, cells := 0, slots := 0, locals := 0 }
set_option maxRecDepth 65536 in
set_option maxHeartbeats 40000000 in
theorem rm1 (l : Launch) (Z : State) (a0 : Array Value) (hw : ∀ d ∈ tables_1, d.before a0 Z = true) (ws : List Jvm.Cond) (p1 : Int32) (h0 : Heap) (n0 : Nat) (Z0 : n0 ≤ h0.size)  :
    MetFree l (⟨"com/example/fpi_to_urn/fpitourn/Whitespace", "isWhitespace", "(C)Z"⟩ : MethodName) (head1 (Jvm.Cond.code (⟨"com/example/fpi_to_urn/fpitourn/Whitespace", "isWhitespace", "(C)Z"⟩ : MethodName) prog_19_method_3_code 1 (some .boolean) :: ws) R1) (fun a U => a = #[(.int p1)] ∧ Z.Warmed39 U.vm ∧ U.heap = h0) (fun _ _ _ _ _ => True) (fun _ U o U' => ∃ v L, o = .returned v ∧ Q1 Z p1 h0 n0 v U'.heap L ∧ FrameEnd U o U' L R1.cells R1.slots) := by
  refine MetFree.of_bodySF (plainFor_of_name pn_0) hisR ?_
  intro p e s m args below meth c s₁ Bd hml0 hP hK
  obtain ⟨rfl, hZ, hh⟩ := hP
  have hx := Bd.exec
  have hby := Bd.bytes
  have hlk : meth.locks = false := BodyLoose.notSynchronized Bd
  have hml : c.maxLocals = 1 := hml0
  have hown : s.vm.findClass "com/example/fpi_to_urn/fpitourn/Whitespace" = some m.cls := findClass_of_methodNamed Bd.named
  have hnm := (name_of_methodNamed Bd.named Bd.method).1
  have X0 : Stand p l e R1 s m #[(.int p1)] below meth c s₁ [] 0 0 := Stand.of_body Bd
  have e0 : s₁.heap = h0 := by rw [← hh, Bd.state]; rfl
  have N0 := Fr.nil n0
  show own_Goes p e below s (Q1 Z p1 h0 n0) R1.cells R1.slots s₁ (entryFrame m #[(.int p1)] 1)
  rw [ef_1 m p1]
  refine own_step (f' := (mkF m 1 #[.val (.int p1)] [(.int p1)])) (fun _ k => XS.iloadN X0.here hx rfl (hb hby d1_0) rfl k) ?_
  refine own_step (f' := (mkF m 3 #[.val (.int p1)] [(.int (32 : Int32)), (.int p1)])) (fun _ k => XS.bipush X0.here hx rfl (hb hby d1_1) k) ?_
  by_cases hc3_1 : p1 = (32 : Int32)
  · refine own_step (f' := (mkF m 24 #[.val (.int p1)] [])) (fun _ k => XS.icmpYes X0.here hx rfl (pc0 := 3) (pc' := 24) rfl (hb hby d1_3) rfl (teq hc3_1).1 (by decide) (by decide) k) ?_
    refine own_step (f' := (mkF m 25 #[.val (.int p1)] [(.int (1 : Int32))])) (fun _ k => XS.iconst X0.here hx rfl (hb hby d1_24) k) ?_
    refine own_step (f' := (mkF m 29 #[.val (.int p1)] [(.int (1 : Int32))])) (fun _ k => XS.goto X0.here hx rfl (pc0 := 25) (pc' := 29) rfl (hb hby d1_25) (by decide) (by decide) k) ?_
    refine own_out (v := some (.int (1 : Int32))) X0 hlk (fun h => by rw [Bd.returns] at h; cases h) (fun fs hr => retN X0 hx (t := .boolean) Bd.returns (by simp) (hb hby d1_29) hr) (by decide) (by decide) ?_
    rw [e0]
    exact ⟨(by rw [own_ws, if_pos hc3_1]), rfl, rfl⟩
  · refine own_step (f' := (mkF m 6 #[.val (.int p1)] [])) (fun _ k => XS.icmpNo X0.here hx rfl (hb hby d1_3) rfl (feq hc3_1).1 k) ?_
    refine own_step (f' := (mkF m 7 #[.val (.int p1)] [(.int p1)])) (fun _ k => XS.iloadN X0.here hx rfl (hb hby d1_6) rfl k) ?_
    refine own_step (f' := (mkF m 9 #[.val (.int p1)] [(.int (9 : Int32)), (.int p1)])) (fun _ k => XS.bipush X0.here hx rfl (hb hby d1_7) k) ?_
    by_cases hc9_2 : p1 = (9 : Int32)
    · refine own_step (f' := (mkF m 24 #[.val (.int p1)] [])) (fun _ k => XS.icmpYes X0.here hx rfl (pc0 := 9) (pc' := 24) rfl (hb hby d1_9) rfl (teq hc9_2).1 (by decide) (by decide) k) ?_
      refine own_step (f' := (mkF m 25 #[.val (.int p1)] [(.int (1 : Int32))])) (fun _ k => XS.iconst X0.here hx rfl (hb hby d1_24) k) ?_
      refine own_step (f' := (mkF m 29 #[.val (.int p1)] [(.int (1 : Int32))])) (fun _ k => XS.goto X0.here hx rfl (pc0 := 25) (pc' := 29) rfl (hb hby d1_25) (by decide) (by decide) k) ?_
      refine own_out (v := some (.int (1 : Int32))) X0 hlk (fun h => by rw [Bd.returns] at h; cases h) (fun fs hr => retN X0 hx (t := .boolean) Bd.returns (by simp) (hb hby d1_29) hr) (by decide) (by decide) ?_
      rw [e0]
      exact ⟨(by rw [own_ws, if_neg hc3_1, if_pos hc9_2]), rfl, rfl⟩
    · refine own_step (f' := (mkF m 12 #[.val (.int p1)] [])) (fun _ k => XS.icmpNo X0.here hx rfl (hb hby d1_9) rfl (feq hc9_2).1 k) ?_
      refine own_step (f' := (mkF m 13 #[.val (.int p1)] [(.int p1)])) (fun _ k => XS.iloadN X0.here hx rfl (hb hby d1_12) rfl k) ?_
      refine own_step (f' := (mkF m 15 #[.val (.int p1)] [(.int (13 : Int32)), (.int p1)])) (fun _ k => XS.bipush X0.here hx rfl (hb hby d1_13) k) ?_
      by_cases hc15_3 : p1 = (13 : Int32)
      · refine own_step (f' := (mkF m 24 #[.val (.int p1)] [])) (fun _ k => XS.icmpYes X0.here hx rfl (pc0 := 15) (pc' := 24) rfl (hb hby d1_15) rfl (teq hc15_3).1 (by decide) (by decide) k) ?_
        refine own_step (f' := (mkF m 25 #[.val (.int p1)] [(.int (1 : Int32))])) (fun _ k => XS.iconst X0.here hx rfl (hb hby d1_24) k) ?_
        refine own_step (f' := (mkF m 29 #[.val (.int p1)] [(.int (1 : Int32))])) (fun _ k => XS.goto X0.here hx rfl (pc0 := 25) (pc' := 29) rfl (hb hby d1_25) (by decide) (by decide) k) ?_
        refine own_out (v := some (.int (1 : Int32))) X0 hlk (fun h => by rw [Bd.returns] at h; cases h) (fun fs hr => retN X0 hx (t := .boolean) Bd.returns (by simp) (hb hby d1_29) hr) (by decide) (by decide) ?_
        rw [e0]
        exact ⟨(by rw [own_ws, if_neg hc3_1, if_neg hc9_2, if_pos hc15_3]), rfl, rfl⟩
      · refine own_step (f' := (mkF m 18 #[.val (.int p1)] [])) (fun _ k => XS.icmpNo X0.here hx rfl (hb hby d1_15) rfl (feq hc15_3).1 k) ?_
        refine own_step (f' := (mkF m 19 #[.val (.int p1)] [(.int p1)])) (fun _ k => XS.iloadN X0.here hx rfl (hb hby d1_18) rfl k) ?_
        refine own_step (f' := (mkF m 21 #[.val (.int p1)] [(.int (10 : Int32)), (.int p1)])) (fun _ k => XS.bipush X0.here hx rfl (hb hby d1_19) k) ?_
        by_cases hc21_4 : p1 = (10 : Int32)
        · refine own_step (f' := (mkF m 24 #[.val (.int p1)] [])) (fun _ k => XS.icmpNo X0.here hx rfl (hb hby d1_21) rfl (teq hc21_4).2 k) ?_
          refine own_step (f' := (mkF m 25 #[.val (.int p1)] [(.int (1 : Int32))])) (fun _ k => XS.iconst X0.here hx rfl (hb hby d1_24) k) ?_
          refine own_step (f' := (mkF m 29 #[.val (.int p1)] [(.int (1 : Int32))])) (fun _ k => XS.goto X0.here hx rfl (pc0 := 25) (pc' := 29) rfl (hb hby d1_25) (by decide) (by decide) k) ?_
          refine own_out (v := some (.int (1 : Int32))) X0 hlk (fun h => by rw [Bd.returns] at h; cases h) (fun fs hr => retN X0 hx (t := .boolean) Bd.returns (by simp) (hb hby d1_29) hr) (by decide) (by decide) ?_
          rw [e0]
          exact ⟨(by rw [own_ws, if_neg hc3_1, if_neg hc9_2, if_neg hc15_3, if_pos hc21_4]), rfl, rfl⟩
        · refine own_step (f' := (mkF m 28 #[.val (.int p1)] [])) (fun _ k => XS.icmpYes X0.here hx rfl (pc0 := 21) (pc' := 28) rfl (hb hby d1_21) rfl (feq hc21_4).2 (by decide) (by decide) k) ?_
          refine own_step (f' := (mkF m 29 #[.val (.int p1)] [(.int (0 : Int32))])) (fun _ k => XS.iconst X0.here hx rfl (hb hby d1_28) k) ?_
          refine own_out (v := some (.int (0 : Int32))) X0 hlk (fun h => by rw [Bd.returns] at h; cases h) (fun fs hr => retN X0 hx (t := .boolean) Bd.returns (by simp) (hb hby d1_29) hr) (by decide) (by decide) ?_
          rw [e0]
          exact ⟨(by rw [own_ws, if_neg hc3_1, if_neg hc9_2, if_neg hc15_3, if_neg hc21_4]), rfl, rfl⟩
theorem own_small (x : Int32) (h1 : ¬ (32 : Int32) < x) (h0 : 0 ≤ x.toInt) : own_ws x = if ((1 : Int64) <<< (x &&& 0x3f).toInt64) &&& (4294977024 : Int64) = (0 : Int64) then 0 else 1 := by
  rw [Int32.lt_iff_toInt_lt] at h1
  have e : (32 : Int32).toInt = 32 := by decide
  obtain ⟨k, hk⟩ : ∃ k : Nat, x.toInt = k := ⟨x.toInt.toNat, by omega⟩
  have hk2 : k ≤ 32 := by omega
  have hx : x = Int32.ofNat k := by
    apply Int32.toInt_inj.mp
    rw [hk, Int32.toInt_ofNat_of_lt (by omega)]
  subst hx
  clear hk h1 h0
  have : ∀ k : Fin 33, own_ws (Int32.ofNat k.val) = if ((1 : Int64) <<< (Int32.ofNat k.val &&& 0x3f).toInt64) &&& (4294977024 : Int64) = (0 : Int64) then 0 else 1 := by decide
  exact this ⟨k, by omega⟩
theorem own_big (x : Int32) (h1 : (32 : Int32) < x) : own_ws x = 0 := by
  rw [Int32.lt_iff_toInt_lt] at h1
  have e : (32 : Int32).toInt = 32 := by decide
  unfold own_ws
  rw [if_neg, if_neg, if_neg, if_neg] <;> (intro h; subst h; revert h1; decide)
theorem own_all (i v : Int32) (hv : v = if (32 : Int32) < i.toUInt32.toUInt16.toUInt32.toInt32 then 0 else if ((1 : Int64) <<< (i.toUInt32.toUInt16.toUInt32.toInt32 &&& 0x3f).toInt64) &&& (4294977024 : Int64) = (0 : Int64) then 0 else 1) : own_ws i.toUInt32.toUInt16.toUInt32.toInt32 = v := by
  have h := c_i2c i
  subst hv
  by_cases q : (32 : Int32) < i.toUInt32.toUInt16.toUInt32.toInt32
  · rw [if_pos q]; exact own_big _ q
  · rw [if_neg q]; exact own_small _ q h.2.1
theorem pd_0 : parseMethodDescriptor "(C)Z" = some ⟨[.char], some .boolean⟩ := by decide +kernel
theorem pn_1 : plainName "com/example/fpi_to_urn/fpitourn/WhitespaceIsWhitespacePinLaw" = true := by first | (simp [plainName, overriddenIn]; done) | decide +kernel
theorem ef_0 (m : MethodId) (x0 : Int32) : entryFrame m #[(.int x0)] maxLocals = mkF m 0 #[.val (.int x0), .unset, .unset, .unset] [] := by first | (simp [entryFrame, mkF, argsToLocals, Value.category, maxLocals]; done) | rfl
def Q0 (Z : State) (i1 : Int32) (h0 : Heap) (n0 : Nat) (v : Option Value) (h : Heap) (L : List Loc) : Prop := v = some (.int 1) ∧ Fr n0 L
set_option maxRecDepth 65536 in
set_option maxHeartbeats 40000000 in
theorem rm0 (l : Launch) (Z : State) (a0 : Array Value) (hw : ∀ d ∈ tables_1, d.before a0 Z = true) (ws : List Jvm.Cond) (i1 : Int32) (h0 : Heap) (n0 : Nat) (Z0 : n0 ≤ h0.size)  :
    MetFree l x (head1 (Jvm.Cond.code x code maxLocals ret :: ws) room_1) (fun a U => a = #[(.int i1)] ∧ Z.Warmed39 U.vm ∧ U.heap = h0) (fun _ _ _ _ _ => True) (fun _ U o U' => ∃ v L, o = .returned v ∧ Q0 Z i1 h0 n0 v U'.heap L ∧ FrameEnd U o U' L room_1.cells room_1.slots) := by
  refine MetFree.of_bodySF (plainFor_of_name pn_1) hisR ?_
  intro p e s m args below meth c s₁ Bd hml0 hP hK
  obtain ⟨rfl, hZ, hh⟩ := hP
  have hx := Bd.exec
  have hby := Bd.bytes
  have hlk : meth.locks = false := BodyLoose.notSynchronized Bd
  have hml : c.maxLocals = 4 := hml0
  have hown : s.vm.findClass "com/example/fpi_to_urn/fpitourn/WhitespaceIsWhitespacePinLaw" = some m.cls := findClass_of_methodNamed Bd.named
  have hnm := (name_of_methodNamed Bd.named Bd.method).1
  have X0 : Stand p l e room_1 s m #[(.int i1)] below meth c s₁ [] 0 0 := Stand.of_body Bd
  have e0 : s₁.heap = h0 := by rw [← hh, Bd.state]; rfl
  have N0 := Fr.nil n0
  show own_Goes p e below s (Q0 Z i1 h0 n0) room_1.cells room_1.slots s₁ (entryFrame m #[(.int i1)] maxLocals)
  rw [ef_0 m i1]
  refine own_step (f' := (mkF m 1 #[.val (.int i1), .unset, .unset, .unset] [(.int i1)])) (fun _ k => XS.iloadN X0.here hx rfl (hb hby at_0) rfl k) ?_
  refine own_step (f' := (mkF m 2 #[.val (.int i1), .unset, .unset, .unset] [(.int (i1.toUInt32.toUInt16.toUInt32.toInt32))])) (fun _ k => XS.i2c X0.here hx rfl (hb hby at_1) rfl k) ?_
  refine own_step (f' := (mkF m 3 #[.val (.int i1), .val (.int (i1.toUInt32.toUInt16.toUInt32.toInt32)), .unset, .unset] [])) (fun _ k => XS.istoreN X0.here hx rfl (hb hby at_2) rfl (l' := #[.val (.int i1), .val (.int (i1.toUInt32.toUInt16.toUInt32.toInt32)), .unset, .unset]) rfl k) ?_
  refine own_step (f' := (mkF m 4 #[.val (.int i1), .val (.int (i1.toUInt32.toUInt16.toUInt32.toInt32)), .unset, .unset] [(.int (i1.toUInt32.toUInt16.toUInt32.toInt32))])) (fun _ k => XS.iloadN X0.here hx rfl (hb hby at_3) rfl k) ?_
  refine own_step (f' := (mkF m 5 #[.val (.int i1), .val (.int (i1.toUInt32.toUInt16.toUInt32.toInt32)), .val (.int (i1.toUInt32.toUInt16.toUInt32.toInt32)), .unset] [])) (fun _ k => XS.istoreN X0.here hx rfl (hb hby at_4) rfl (l' := #[.val (.int i1), .val (.int (i1.toUInt32.toUInt16.toUInt32.toInt32)), .val (.int (i1.toUInt32.toUInt16.toUInt32.toInt32)), .unset]) rfl k) ?_
  refine own_step (f' := (mkF m 6 #[.val (.int i1), .val (.int (i1.toUInt32.toUInt16.toUInt32.toInt32)), .val (.int (i1.toUInt32.toUInt16.toUInt32.toInt32)), .unset] [(.int (i1.toUInt32.toUInt16.toUInt32.toInt32))])) (fun _ k => XS.iloadN X0.here hx rfl (hb hby at_5) rfl k) ?_
  refine own_step (f' := (mkF m 8 #[.val (.int i1), .val (.int (i1.toUInt32.toUInt16.toUInt32.toInt32)), .val (.int (i1.toUInt32.toUInt16.toUInt32.toInt32)), .unset] [(.int (32 : Int32)), (.int (i1.toUInt32.toUInt16.toUInt32.toInt32))])) (fun _ k => XS.bipush X0.here hx rfl (hb hby at_6) k) ?_
  have J8_3 : ∀ (T8_3 : State) (v8_3_s0 : Int32), Stand p l e room_1 s m #[(.int i1)] below meth c T8_3 [] 0 0 → T8_3.heap = h0 → v8_3_s0 = (if (32 : Int32) < (i1.toUInt32.toUInt16.toUInt32.toInt32) then (0 : Int32) else (if (((1 : Int64) <<< ((i1.toUInt32.toUInt16.toUInt32.toInt32) &&& 0x3f).toInt64) &&& (4294977024 : Int64)) = (0 : Int64) then (0 : Int32) else (1 : Int32))) → own_Goes p e below s (Q0 Z i1 h0 n0) room_1.cells room_1.slots T8_3 (mkF m 28 #[.val (.int i1), .val (.int (i1.toUInt32.toUInt16.toUInt32.toInt32)), .val (.int (i1.toUInt32.toUInt16.toUInt32.toInt32)), .unset] [(.int v8_3_s0)]) := by
    intro T8_3 v8_3_s0 X8_3 e8_3 hv8_3_0
    refine own_step (f' := (mkF m 29 #[.val (.int i1), .val (.int (i1.toUInt32.toUInt16.toUInt32.toInt32)), .val (.int (i1.toUInt32.toUInt16.toUInt32.toInt32)), .val (.int v8_3_s0)] [])) (fun _ k => XS.istoreN X8_3.here hx rfl (hb hby at_28) rfl (l' := #[.val (.int i1), .val (.int (i1.toUInt32.toUInt16.toUInt32.toInt32)), .val (.int (i1.toUInt32.toUInt16.toUInt32.toInt32)), .val (.int v8_3_s0)]) rfl k) ?_
    refine own_step (f' := (mkF m 30 #[.val (.int i1), .val (.int (i1.toUInt32.toUInt16.toUInt32.toInt32)), .val (.int (i1.toUInt32.toUInt16.toUInt32.toInt32)), .val (.int v8_3_s0)] [(.int (i1.toUInt32.toUInt16.toUInt32.toInt32))])) (fun _ k => XS.iloadN X8_3.here hx rfl (hb hby at_29) rfl k) ?_
    have Zq4 : n0 ≤ h0.size := Z0
    obtain ⟨_, _, ⟨T4, L4, k4, n4⟩, -, X4, ⟨Lc4, hQ4, l4, y4, z4⟩, st4⟩ := Jvm.LawKit.callS X8_3 hx (y := (⟨"com/example/fpi_to_urn/fpitourn/Whitespace", "isWhitespace", "(C)Z"⟩ : MethodName)) hown (mvT hZ (hw _ (List.mem_of_getElem? (i := 1) rfl))) (mvT hZ (hw _ (List.mem_of_getElem? (i := 2) rfl))) (mvT hZ (hw _ (List.mem_of_getElem? (i := 3) rfl))) (mvT hZ (hw _ (List.mem_of_getElem? (i := 4) rfl))) (by decide) (backOf (W := 0) (rm1 l Z a0 hw [] (i1.toUInt32.toUInt16.toUInt32.toInt32) h0 n0 Zq4 ) hZ (hw _ (List.mem_of_getElem? (i := 4) rfl)) (hw _ (List.mem_of_getElem? (i := 3) rfl)) (by decide) (by decide)) (g := (mkF m 30 #[.val (.int i1), .val (.int (i1.toUInt32.toUInt16.toUInt32.toInt32)), .val (.int (i1.toUInt32.toUInt16.toUInt32.toInt32)), .val (.int v8_3_s0)] [(.int (i1.toUInt32.toUInt16.toUInt32.toInt32))])) rfl (by rw [hml]; rfl) (argsL := [(.int (i1.toUInt32.toUInt16.toUInt32.toInt32))]) (rest := []) (lenOf pd_0 rfl) rfl (by show 2 * 0 + _ ≤ _; exact Nat.le_of_eq rfl) (hb hby at_30) (fun _ _ => ⟨rfl, e8_3, (by decide : 0 + 0 ≤ _), (by decide : 0 + 0 ≤ _)⟩)
    dsimp only [Pt.U, Pt.locs, Pt.cells, Pt.slots] at X4 l4 y4 z4 st4 hQ4
    subst l4 y4 z4
    obtain ⟨rfl, rfl, e4⟩ := hQ4
    try rw [List.append_nil] at X4
    refine own_step (f' := (mkF m 33 #[.val (.int i1), .val (.int (i1.toUInt32.toUInt16.toUInt32.toInt32)), .val (.int (i1.toUInt32.toUInt16.toUInt32.toInt32)), .val (.int v8_3_s0)] [(.int (own_ws (i1.toUInt32.toUInt16.toUInt32.toInt32)))])) st4 ?_
    refine own_step (f' := (mkF m 34 #[.val (.int i1), .val (.int (i1.toUInt32.toUInt16.toUInt32.toInt32)), .val (.int (i1.toUInt32.toUInt16.toUInt32.toInt32)), .val (.int v8_3_s0)] [(.int v8_3_s0), (.int (own_ws (i1.toUInt32.toUInt16.toUInt32.toInt32)))])) (fun _ k => XS.iloadN X4.here hx rfl (hb hby at_33) rfl k) ?_
    have hf34_5 : (own_ws (i1.toUInt32.toUInt16.toUInt32.toInt32)) = v8_3_s0 := own_all _ _ hv8_3_0
    refine own_step (f' := (mkF m 37 #[.val (.int i1), .val (.int (i1.toUInt32.toUInt16.toUInt32.toInt32)), .val (.int (i1.toUInt32.toUInt16.toUInt32.toInt32)), .val (.int v8_3_s0)] [])) (fun _ k => XS.icmpNo X4.here hx rfl (hb hby at_34) rfl (teq hf34_5).2 k) ?_
    refine own_step (f' := (mkF m 38 #[.val (.int i1), .val (.int (i1.toUInt32.toUInt16.toUInt32.toInt32)), .val (.int (i1.toUInt32.toUInt16.toUInt32.toInt32)), .val (.int v8_3_s0)] [(.int (1 : Int32))])) (fun _ k => XS.iconst X4.here hx rfl (hb hby at_37) k) ?_
    refine own_step (f' := (mkF m 42 #[.val (.int i1), .val (.int (i1.toUInt32.toUInt16.toUInt32.toInt32)), .val (.int (i1.toUInt32.toUInt16.toUInt32.toInt32)), .val (.int v8_3_s0)] [(.int (1 : Int32))])) (fun _ k => XS.goto X4.here hx rfl (pc0 := 38) (pc' := 42) rfl (hb hby at_38) (by decide) (by decide) k) ?_
    refine own_out (v := some (.int (1 : Int32))) X4 hlk (fun h => by rw [Bd.returns] at h; cases h) (fun fs hr => retN X4 hx (t := .boolean) Bd.returns (by simp) (hb hby at_42) hr) (by decide) (by decide) ?_
    exact ⟨rfl, N0⟩
  by_cases hc8_1 : (32 : Int32) < (i1.toUInt32.toUInt16.toUInt32.toInt32)
  · refine own_step (f' := (mkF m 27 #[.val (.int i1), .val (.int (i1.toUInt32.toUInt16.toUInt32.toInt32)), .val (.int (i1.toUInt32.toUInt16.toUInt32.toInt32)), .unset] [])) (fun _ k => XS.icmpYes X0.here hx rfl (pc0 := 8) (pc' := 27) rfl (hb hby at_8) rfl (tlt hc8_1).2.2.1 (by decide) (by decide) k) ?_
    refine own_step (f' := (mkF m 28 #[.val (.int i1), .val (.int (i1.toUInt32.toUInt16.toUInt32.toInt32)), .val (.int (i1.toUInt32.toUInt16.toUInt32.toInt32)), .unset] [(.int (0 : Int32))])) (fun _ k => XS.iconst X0.here hx rfl (hb hby at_27) k) ?_
    exact J8_3 _ (0 : Int32) X0 e0 (by rw [if_pos hc8_1])
  · refine own_step (f' := (mkF m 11 #[.val (.int i1), .val (.int (i1.toUInt32.toUInt16.toUInt32.toInt32)), .val (.int (i1.toUInt32.toUInt16.toUInt32.toInt32)), .unset] [])) (fun _ k => XS.icmpNo X0.here hx rfl (hb hby at_8) rfl (flt hc8_1).2.2.1 k) ?_
    refine own_step (f' := (mkF m 12 #[.val (.int i1), .val (.int (i1.toUInt32.toUInt16.toUInt32.toInt32)), .val (.int (i1.toUInt32.toUInt16.toUInt32.toInt32)), .unset] [(.long (1 : Int64))])) (fun _ k => XS.lconst X0.here hx rfl (hb hby at_11) k) ?_
    refine own_step (f' := (mkF m 13 #[.val (.int i1), .val (.int (i1.toUInt32.toUInt16.toUInt32.toInt32)), .val (.int (i1.toUInt32.toUInt16.toUInt32.toInt32)), .unset] [(.int (i1.toUInt32.toUInt16.toUInt32.toInt32)), (.long (1 : Int64))])) (fun _ k => XS.iloadN X0.here hx rfl (hb hby at_12) rfl k) ?_
    refine own_step (f' := (mkF m 14 #[.val (.int i1), .val (.int (i1.toUInt32.toUInt16.toUInt32.toInt32)), .val (.int (i1.toUInt32.toUInt16.toUInt32.toInt32)), .unset] [(.long ((1 : Int64) <<< ((i1.toUInt32.toUInt16.toUInt32.toInt32) &&& 0x3f).toInt64))])) (fun _ k => XS.lshl X0.here hx rfl (hb hby at_13) rfl k) ?_
    refine own_step (f' := (mkF m 17 #[.val (.int i1), .val (.int (i1.toUInt32.toUInt16.toUInt32.toInt32)), .val (.int (i1.toUInt32.toUInt16.toUInt32.toInt32)), .unset] [(.long (4294977024 : Int64)), (.long ((1 : Int64) <<< ((i1.toUInt32.toUInt16.toUInt32.toInt32) &&& 0x3f).toInt64))])) (fun _ k => X0.ldc2Long hx hown (mvT hZ (hw _ (List.mem_of_getElem? (i := 0) rfl))) (g := (mkF m 14 #[.val (.int i1), .val (.int (i1.toUInt32.toUInt16.toUInt32.toInt32)), .val (.int (i1.toUInt32.toUInt16.toUInt32.toInt32)), .unset] [(.long ((1 : Int64) <<< ((i1.toUInt32.toUInt16.toUInt32.toInt32) &&& 0x3f).toInt64))])) rfl (hb hby at_14) _ k) ?_
    refine own_step (f' := (mkF m 18 #[.val (.int i1), .val (.int (i1.toUInt32.toUInt16.toUInt32.toInt32)), .val (.int (i1.toUInt32.toUInt16.toUInt32.toInt32)), .unset] [(.long (((1 : Int64) <<< ((i1.toUInt32.toUInt16.toUInt32.toInt32) &&& 0x3f).toInt64) &&& (4294977024 : Int64)))])) (fun _ k => XS.land X0.here hx rfl (hb hby at_17) rfl k) ?_
    refine own_step (f' := (mkF m 19 #[.val (.int i1), .val (.int (i1.toUInt32.toUInt16.toUInt32.toInt32)), .val (.int (i1.toUInt32.toUInt16.toUInt32.toInt32)), .unset] [(.long (0 : Int64)), (.long (((1 : Int64) <<< ((i1.toUInt32.toUInt16.toUInt32.toInt32) &&& 0x3f).toInt64) &&& (4294977024 : Int64)))])) (fun _ k => XS.lconst X0.here hx rfl (hb hby at_18) k) ?_
    refine own_step (f' := (mkF m 20 #[.val (.int i1), .val (.int (i1.toUInt32.toUInt16.toUInt32.toInt32)), .val (.int (i1.toUInt32.toUInt16.toUInt32.toInt32)), .unset] [(.int (lcmpW (((1 : Int64) <<< ((i1.toUInt32.toUInt16.toUInt32.toInt32) &&& 0x3f).toInt64) &&& (4294977024 : Int64)) (0 : Int64)))])) (fun _ k => XS.lcmp X0.here hx rfl (hb hby at_19) rfl k) ?_
    by_cases hc20_1002 : (((1 : Int64) <<< ((i1.toUInt32.toUInt16.toUInt32.toInt32) &&& 0x3f).toInt64) &&& (4294977024 : Int64)) = (0 : Int64)
    · refine own_step (f' := (mkF m 27 #[.val (.int i1), .val (.int (i1.toUInt32.toUInt16.toUInt32.toInt32)), .val (.int (i1.toUInt32.toUInt16.toUInt32.toInt32)), .unset] [])) (fun _ k => XS.ifYes X0.here hx rfl (pc0 := 20) (pc' := 27) rfl (hb hby at_20) rfl ((if0 _ _).trans (teq ((lw_eq _ _).mpr hc20_1002)).1) (by decide) (by decide) k) ?_
      refine own_step (f' := (mkF m 28 #[.val (.int i1), .val (.int (i1.toUInt32.toUInt16.toUInt32.toInt32)), .val (.int (i1.toUInt32.toUInt16.toUInt32.toInt32)), .unset] [(.int (0 : Int32))])) (fun _ k => XS.iconst X0.here hx rfl (hb hby at_27) k) ?_
      exact J8_3 _ (0 : Int32) X0 e0 (by rw [if_neg hc8_1, if_pos hc20_1002])
    · refine own_step (f' := (mkF m 23 #[.val (.int i1), .val (.int (i1.toUInt32.toUInt16.toUInt32.toInt32)), .val (.int (i1.toUInt32.toUInt16.toUInt32.toInt32)), .unset] [])) (fun _ k => XS.ifNo X0.here hx rfl (hb hby at_20) rfl ((if0 _ _).trans (feq (fun q => hc20_1002 ((lw_eq _ _).mp q))).1) k) ?_
      refine own_step (f' := (mkF m 24 #[.val (.int i1), .val (.int (i1.toUInt32.toUInt16.toUInt32.toInt32)), .val (.int (i1.toUInt32.toUInt16.toUInt32.toInt32)), .unset] [(.int (1 : Int32))])) (fun _ k => XS.iconst X0.here hx rfl (hb hby at_23) k) ?_
      refine own_step (f' := (mkF m 28 #[.val (.int i1), .val (.int (i1.toUInt32.toUInt16.toUInt32.toInt32)), .val (.int (i1.toUInt32.toUInt16.toUInt32.toInt32)), .unset] [(.int (1 : Int32))])) (fun _ k => XS.goto X0.here hx rfl (pc0 := 24) (pc' := 28) rfl (hb hby at_24) (by decide) (by decide) k) ?_
      exact J8_3 _ (1 : Int32) X0 e0 (by rw [if_neg hc8_1, if_neg hc20_1002])
set_option maxRecDepth 65536 in
set_option maxHeartbeats 40000000 in
theorem comes_1 {Post : Tables → Env → Array Value → State → Outcome → State → Prop} (hpost : ∀ tb e args s v u, (limb_1_1.after args s (.returned v) u = true ∧ limb_1_2.after args s (.returned v) u = true ∧ True) → FrameEnd s (.returned v) u (Jvm.fieldLocs frame_1_writes args s ++ Jvm.arrayLocs frame_1_arrays args s ++ Jvm.staticLocs frame_1_statics s) 0 0 → Post tb e args s (.returned v) u) :
    ArmFor flags0 classFile x code maxLocals ret World_1 tables_1 room_1 Calls_1 rest_1 Pre_1 Post := by
  intro l hfl _ _ p e ha hc hk s m args below hf hA hF happ hP
  obtain ⟨hcalls, hrest, hpre⟩ := hP
  obtain ⟨-, -, -, hnamed, -, -, -, hat⟩ := (Spec.applies_iff hf).mp happ
  obtain ⟨hg, hn⟩ := and_e (Cond.before_iff.mp (show (Jvm.Cond.and given_1 narrow_1).before args s = true from hpre))
  obtain ⟨gq1, gq2⟩ := and_e hg
  obtain ⟨w0, rfl⟩ : ∃ w0 : Value, args = #[w0] := by
    have hs : args.size = 1 := by simpa [Cond.value, given_1] using gq1
    obtain ⟨L⟩ := args
    match L, hs with
    | [w0], _ => exact ⟨w0, rfl⟩
  have hw := fun d (hd : d ∈ tables_1) => atoms_spec (ws := Jvm.Cond.code x code maxLocals ret :: tables_1) hat d (List.mem_cons_of_mem _ hd)
  have hfit : Fit s := fun {y c} hc i hi => by
    obtain ⟨ha, rfl⟩ := Array.getElem?_eq_some_iff.mp hc
    have q := List.all_eq_true.mp ((Array.all_eq_true_iff_forall_mem.mp hF) _ (Array.getElem_mem ha)) i (List.mem_range.mpr hi)
    simpa [Array.getElem?_eq_getElem hi] using q
  obtain ⟨i0, ei0⟩ := is_v gq2
  obtain rfl : w0 = (.int i0) := Option.some.inj ei0
  obtain ⟨n, o, h1, h2, h3, _, L, rfl, ⟨rfl, N⟩, hq⟩ := rm0 l s _ hw tables_1 i0  s.heap s.heap.size (Nat.le_refl _)  p e ha hc hk s m _ below hf ((Spec.applies_iff_loose hf).mp happ).1 ⟨rfl, State.Warmed39.refl s, rfl⟩ trivial
  refine ⟨n, _, h1, h2, h3, hpost _ _ _ _ _ _ ⟨Cond.after_iff.mpr rfl, Cond.after_iff.mpr (eq_i res_at (Term.int_eval (1)) rfl), trivial⟩ ⟨hq.1, hq.2.1, (hq.2.2.sift fun y hy => Or.inr (N y hy)).mono (by decide) (by decide)⟩⟩
theorem main_1_1 : Claimed_1_1 := comes_1 fun _ _ _ _ _ _ h hF => ⟨h.1, hF⟩
theorem main_1_2 : Claimed_1_2 := comes_1 fun _ _ _ _ _ _ h hF => ⟨h.2.1, hF⟩
end Jvm.Pilot.@@N@@
namespace Jvm.Pilot.@@N@@
open Jvm Jvm.ClassFile Sem Op Lib Jvm.Free Jvm.Stand Jvm.Pilot.@@N@@.Jvm.D
/-! MADE BY PROGRAM (witnessworld.py) out of the Statement's table words and the real class files: 9 classes; the members and pool entries that the words name. The judged class is class 1, her method 1. -/
namespace start1
open Jvm.ClassFile
def u (s : String) : CpInfo := .utf8 (stringToUtf16 s)
/-- a pool by its gaps: so many unusable entries, then the entry; so many at the end -/
def gap : Nat → List CpInfo → List CpInfo
  | 0, r => r
  | n + 1, r => .unusable :: gap n r
def poolList (es : List (Nat × CpInfo)) (last : Nat) : List CpInfo := es.foldr (fun e r => gap e.1 (e.2 :: r)) (gap last [])
def pool (es : List (Nat × CpInfo)) (last : Nat) : Array CpInfo := ⟨poolList es last⟩
def fileOf (pool : Array CpInfo) (this : Nat) (attrs : Array Attribute := #[]) (ms : Array MethodInfo := #[]) (fl : Nat := 33) (sup : Nat := 0) (ifs : Array Nat := #[]) (fds : Array FieldInfo := #[]) : ClassFile where
  minorVersion := 0
  majorVersion := 65
  constantPool := pool
  accessFlags := fl
  thisClass := this
  superClass := sup
  interfaces := ifs
  fields := fds
  methods := ms
  attributes := attrs
def plain (name : String) (sup : Option ClassId) : Class where
  name := name
  kind := .ordinary
  loader := none
  accessFlags := 33
  super := sup
  interfaces := #[]
  cf := none
  fields := #[]
  methods := #[]
  instanceTypes := #[]
  staticTypes := #[]
  resolved := #[]
  callSites := []
  init := .initialized
  statics := none
  mirror := none

def pool0 : Array CpInfo := pool [(5, u "<init>"), (0, u "()V"), (1, .class_ 10), (1, u "java/lang/Object")] 113

def k0m0 : Method := { name := "<init>", desc := "()V", sig := { parameters := [], returnType := none }, accessFlags := 1, code := none }
/-- java/lang/Object -/
def k0 : Class := { plain "java/lang/Object" none with
  accessFlags := 33
  interfaces := #[]
  cf := some (fileOf pool0 8 #[] #[{ accessFlags := 1, nameIndex := 5, descriptorIndex := 6, attributes := #[] }] 33 0 #[] #[])
  fields := #[]
  methods := #[k0m0]
  instanceTypes := #[]
  staticTypes := #[]
  resolved := Array.replicate 124 none
  statics := none }

def pool1 : Array CpInfo := pool [(2, .class_ 4), (1, u "java/lang/Object"), (0, u "<init>"), (0, u "()V"), (0, .class_ 8), (0, u "com/example/fpi_to_urn/fpitourn/WhitespaceIsWhitespacePinLaw"), (0, .long 4294977024), (1, .methodref 12 13), (0, .class_ 14), (0, .nameAndType 15 16), (0, u "com/example/fpi_to_urn/fpitourn/Whitespace"), (0, u "isWhitespace"), (0, u "(C)Z"), (0, u "WHITESPACE_SET"), (0, u "J"), (3, u "law"), (0, u "(I)Z")] 3

def k1m0 : Method := { name := "<init>", desc := "()V", sig := { parameters := [], returnType := none }, accessFlags := 2, code := none }
def k1c1 : Code := { maxStack := 4, maxLocals := 4, code := code, exceptionTable := #[], attributes := #[] }
def k1m1 : Method := { name := "law", desc := "(I)Z", sig := { parameters := [.int], returnType := some .boolean }, accessFlags := 9, code := some k1c1 }
/-- com/example/fpi_to_urn/fpitourn/WhitespaceIsWhitespacePinLaw -/
def k1 : Class := { plain "com/example/fpi_to_urn/fpitourn/WhitespaceIsWhitespacePinLaw" (some 0) with
  accessFlags := 49
  interfaces := #[]
  cf := some (fileOf pool1 7 #[] #[{ accessFlags := 2, nameIndex := 5, descriptorIndex := 6, attributes := #[] }, { accessFlags := 9, nameIndex := 22, descriptorIndex := 23, attributes := #[] }] 49 2 #[] #[{ accessFlags := 26, nameIndex := 17, descriptorIndex := 18, attributes := #[] }])
  fields := #[{ name := "WHITESPACE_SET", type := .long, accessFlags := 26, slot := 0, constantValue := 0 }]
  methods := #[k1m0, k1m1]
  instanceTypes := #[]
  staticTypes := #[.long]
  resolved := Array.replicate 27 none
  statics := none }

def pool2 : Array CpInfo := pool [(2, .class_ 4), (1, u "java/lang/Object"), (0, u "<init>"), (0, u "()V"), (1, .class_ 10), (1, u "com/example/fpi_to_urn/fpitourn/Whitespace"), (17, u "isWhitespace"), (0, u "(C)Z")] 19

def k2m0 : Method := { name := "<init>", desc := "()V", sig := { parameters := [], returnType := none }, accessFlags := 2, code := none }
def k2c1 : Code := { maxStack := 2, maxLocals := 1, code := prog_19_method_3_code, exceptionTable := #[], attributes := #[] }
def k2m1 : Method := { name := "isWhitespace", desc := "(C)Z", sig := { parameters := [.char], returnType := some .boolean }, accessFlags := 8, code := some k2c1 }
/-- com/example/fpi_to_urn/fpitourn/Whitespace -/
def k2 : Class := { plain "com/example/fpi_to_urn/fpitourn/Whitespace" (some 0) with
  accessFlags := 32
  interfaces := #[]
  cf := some (fileOf pool2 8 #[] #[{ accessFlags := 2, nameIndex := 5, descriptorIndex := 6, attributes := #[] }, { accessFlags := 8, nameIndex := 28, descriptorIndex := 29, attributes := #[] }] 32 2 #[] #[])
  fields := #[]
  methods := #[k2m0, k2m1]
  instanceTypes := #[]
  staticTypes := #[]
  resolved := Array.replicate 49 none
  statics := none }

def pool3 : Array CpInfo := pool [(1, u "java/lang/Cloneable"), (0, .class_ 1), (0, u "java/lang/Object"), (0, .class_ 3)] 3

/-- java/lang/Cloneable -/
def k3 : Class := { plain "java/lang/Cloneable" (some 0) with
  accessFlags := 1537
  interfaces := #[]
  cf := some (fileOf pool3 2 #[] #[] 1537 4 #[] #[])
  fields := #[]
  methods := #[]
  instanceTypes := #[]
  staticTypes := #[]
  resolved := Array.replicate 8 none
  statics := none }

def pool4 : Array CpInfo := pool [(1, u "java/io/Serializable"), (0, .class_ 1), (0, u "java/lang/Object"), (0, .class_ 3)] 3

/-- java/io/Serializable -/
def k4 : Class := { plain "java/io/Serializable" (some 0) with
  accessFlags := 1537
  interfaces := #[]
  cf := some (fileOf pool4 2 #[] #[] 1537 4 #[] #[])
  fields := #[]
  methods := #[]
  instanceTypes := #[]
  staticTypes := #[]
  resolved := Array.replicate 8 none
  statics := none }

/-- the primitive byte -/
def k5 : Class := { plain "byte" none with kind := .primitive 'B', accessFlags := 0x411 }
/-- [B -/
def k6 : Class := { plain "[B" (some 0) with kind := .array 5 .byte, interfaces := #[3, 4], accessFlags := 1041 }

/-- the primitive int -/
def k7 : Class := { plain "int" none with kind := .primitive 'I', accessFlags := 0x411 }
/-- [I -/
def k8 : Class := { plain "[I" (some 0) with kind := .array 7 .int, interfaces := #[3, 4], accessFlags := 1041 }

def heap : Heap := #[]
def classes : Array Class := #[k0, k1, k2, k3, k4, k5, k6, k7, k8]
def interned : List (Array UInt16 × Addr) := []
def slotsUsed : Nat := 0
def theMethod : MethodId := ⟨1, 1⟩
def args0 : Array Value := #[.int 5]
def aboutOver (below : List Frame) : State where
  vm := { classes := classes, interned := interned.toArray }
  heap := heap
  slotsUsed := slotsUsed
  threads := #[{ frames := .invoking theMethod args0 :: below }]
def below0 : List Frame := [.native { method := ⟨0, 0⟩, args := #[] }]
def about1 : State := aboutOver below0
def p0 : Program := .bare "" "" ""
def e0 : Env := launch0.env 0 0 0
theorem w_frames : about1.frames = Frame.invoking theMethod args0 :: below0 := rfl
set_option maxRecDepth 65536 in
theorem w_args : argsFit about1.vm theMethod args0 = true := by decide +kernel
set_option maxRecDepth 65536 in
theorem w_heap : heapFits about1 = true := by decide +kernel
set_option maxRecDepth 65536 in
theorem w_runnable : about1.curStatus? = some .runnable := by decide +kernel
set_option maxRecDepth 65536 in
theorem w_alone : about1.alone = true := by decide +kernel
set_option maxRecDepth 65536 in
theorem w_named : about1.methodNamed? x = some theMethod := by decide +kernel
set_option maxRecDepth 65536 in
theorem w_hears : about1.hears theMethod below0 = true := by decide +kernel
set_option maxRecDepth 65536 in
theorem w_ripe : about1.ripe theMethod args0 below0 = true := by decide +kernel
theorem w_running : about1.status = .running := rfl
set_option maxRecDepth 65536 in
theorem w_room : about1.hasRoom e0.platform room_1 = true :=
  launch0.hasRoom_least _ room_1 (by decide +kernel) (by decide +kernel) (by decide +kernel) (by decide +kernel) (by decide +kernel) (by decide +kernel)
theorem allAtoms_all (ts : List Jvm.Cond) (a : Array Jvm.Value) (st : Jvm.State) : (allAtoms ts).before a st = ts.all (fun c => c.before a st) := by
  induction ts with
  | nil => rfl
  | cons c t ih =>
    show (Jvm.Cond.and c (allAtoms t)).before a st = _
    rw [Jvm.Cond.before_and, ih, List.all_cons]
def words1 : List Jvm.Cond := Jvm.Cond.code x code maxLocals ret :: tables_1
/-- a 'code' word, met by the world's own term for the bytes: nothing is compared byte by byte -/
theorem code_word {y : MethodName} {bytes : ByteArray} {mx : Nat} {rt : Option FieldType} {a : Array Value} {s : State} {m : MethodId} {meth : Method} {c : Code} (h1 : s.methodNamed? y = some m) (h2 : s.vm.method? m = some meth) (h3 : meth.code = some c) (h4 : c.code = bytes)
    (h5 : (c.maxLocals == mx && c.exceptionTable.isEmpty && decide (c.maxStack ≤ mostOperands) && decide (meth.sig.returnType = rt) && !meth.locks && decide (parseMethodDescriptor y.desc = some meth.sig)) = true) : (Jvm.Cond.code y bytes mx rt).before a s = true := by
  simp only [Bool.and_eq_true, beq_iff_eq, Bool.not_eq_true', decide_eq_true_eq] at h5
  obtain ⟨⟨⟨⟨⟨g1, g2⟩, g3⟩, g4⟩, g5⟩, g6⟩ := h5
  simp [Cond.before, Cond.holds, Cond.value, h1, h2, h3, h4, g1, g2, g3, g4, g5, g6]
def isCode : Jvm.Cond → Bool
  | .code _ _ _ _ => true
  | _ => false
theorem all_split {L : List Jvm.Cond} {P : Jvm.Cond → Bool} (h1 : L.all (fun c => isCode c || P c) = true) (h2 : ∀ c ∈ L.filter isCode, P c = true) : L.all P = true := by
  refine List.all_eq_true.mpr fun c hc => ?_
  have h := List.all_eq_true.mp h1 c hc
  rcases Bool.eq_false_or_eq_true (isCode c) with hi | hi
  · exact h2 c (List.mem_filter.mpr ⟨hc, hi⟩)
  · simpa [hi] using h
set_option maxRecDepth 65536 in
theorem w_c0 : (Jvm.Cond.code x code maxLocals ret).before args0 about1 = true := code_word (m := ⟨1, 1⟩) (meth := k1m1) (c := k1c1) (by decide +kernel) rfl rfl rfl (by decide +kernel)
set_option maxRecDepth 65536 in
theorem w_c1 : (Jvm.Cond.code ({ cls := "com/example/fpi_to_urn/fpitourn/Whitespace", name := "isWhitespace", desc := "(C)Z" } : Jvm.MethodName) prog_19_method_3_code (1 : Nat) (Option.some Jvm.ClassFile.FieldType.boolean)).before args0 about1 = true := code_word (m := ⟨2, 1⟩) (meth := k2m1) (c := k2c1) (by decide +kernel) rfl rfl rfl (by decide +kernel)
def codes1 : List Jvm.Cond := [Jvm.Cond.code x code maxLocals ret, Jvm.Cond.code ({ cls := "com/example/fpi_to_urn/fpitourn/Whitespace", name := "isWhitespace", desc := "(C)Z" } : Jvm.MethodName) prog_19_method_3_code (1 : Nat) (Option.some Jvm.ClassFile.FieldType.boolean)]
set_option maxRecDepth 65536 in
theorem codes_eq : words1.filter isCode = codes1 := rfl
theorem w_codes : ∀ c ∈ words1.filter isCode, c.before args0 about1 = true := by
  rw [codes_eq]
  intro c hc
  simp only [codes1, List.mem_cons, List.not_mem_nil, or_false] at hc
  rcases hc with rfl | rfl
  · exact w_c0
  · exact w_c1
set_option maxRecDepth 65536 in
theorem w_t1 : words1.all (fun c => isCode c || c.before args0 about1) = true := by decide +kernel
theorem w_tables : (allAtoms (Jvm.Cond.code x code maxLocals ret :: tables_1)).before args0 about1 = true := by
  rw [allAtoms_all]
  show words1.all (fun c => c.before args0 about1) = true
  refine all_split ?_ w_codes
  rw [w_t1]
set_option maxRecDepth 65536 in
theorem w_case : (Jvm.Cond.and given_1 narrow_1).before args0 about1 = true := by decide +kernel
theorem w_applies : (headSpec (Jvm.Cond.code x code maxLocals ret :: tables_1) room_1).applies x e0.platform about1 = true :=
  (Spec.applies_iff w_frames).mpr ⟨w_running, w_runnable, w_alone, w_named, w_hears, w_ripe, w_room, w_tables⟩
theorem atStart : AtStart classFile x code maxLocals ret World_1 tables_1 room_1 Calls_1 rest_1 Pre_1 launch0 p0 e0 about1 theMethod args0 below0 :=
  ⟨lists_1, trivial, launch0.admits_env _ _ _, launch0.least_env, fairChoices_fair.cas, fairChoices_fair.clock, w_frames, w_args, w_heap, w_applies, trivial, trivial, w_case⟩
end start1
theorem witness_1 : WitnessClaimed_1 := ⟨start1.p0, start1.e0, start1.about1, start1.theMethod, start1.args0, start1.below0, start1.atStart⟩
end Jvm.Pilot.@@N@@
