import JvmDerived
import JvmDerived.Pilot.@@N@@Statement
import JvmDerived.Pilot.@@N@@Code
set_option linter.unusedVariables false
set_option linter.unusedSimpArgs false
namespace Jvm.RoadKit
open Sem ClassFile Op Lib Jvm.Stand Jvm.Free Jvm.LawKit
section New
variable {p : Program} {l : Launch} {e : Env} {R : Room} {s : State} {m : MethodId} {args : Array Value} {below : List Frame} {meth : Method} {c : Code} {T : State} {locs : List Loc} {cells slots : Nat}
theorem retI (X : Stand p l e R s m args below meth c T locs cells slots) (hx : p.tables.exec = Jvm.exec) {pc : Nat} {Ls : Array Slot} {z : Int32} {rest : List Value} (hret : meth.sig.returnType = some .int) (hd : decode c.code pc = .ok (.ireturn, 1)) {fs : List Frame}
    (hl : ∀ (f : JFrame) (acts : List Action), f.method = m → f.locked = none → f.entered = [] → (doReturn e (T.setTop f) acts (some (.int z))).1 = T.setFrames fs) : Steps p.tables e below (T.setTop (mkF m pc Ls (.int z :: rest))) (T.setFrames fs) := by
  have hm' : T.vm.method? m = some meth := X.method'
  have hn : narrow .int (.int z) = .int z := rfl
  show Steps p.tables e below (T.setTop { method := m, pc := pc, locals := Ls, stack := _ :: rest, locked := none }) _
  jvm_step X.here [X.here.top, hx, hd, hm', hret, hn]
  first | (intro acts; rw [hl _ acts rfl rfl rfl]) | rw [hl _ _ rfl rfl rfl]
  exact Steps.refl _
end New
end Jvm.RoadKit
namespace Jvm.Pilot.@@N@@
open Jvm Jvm.ClassFile Sem Op Lib Jvm.Free Jvm.Stand Jvm.LawKit Jvm.RoadKit Bundle Jvm.Pilot.@@N@@.Jvm.D
theorem d1_0 : decode prog_104_method_1_code 0 = .ok (.iload_n 0, 1) := by decide +kernel
theorem d1_1 : decode prog_104_method_1_code 1 = .ok (.ifCond .eq 9, 3) := by decide +kernel
theorem d1_10 : decode prog_104_method_1_code 10 = .ok (.getstatic 7, 3) := by decide +kernel
theorem d1_13 : decode prog_104_method_1_code 13 = .ok (.areturn, 1) := by decide +kernel
theorem pn_1 : plainName "com/example/huron/huron/Value" = true := by first | (simp [plainName, overriddenIn]; done) | decide +kernel
theorem ef_1 (m : MethodId) (x0 : Int32) : entryFrame m #[(.int x0)] 1 = mkF m 0 #[.val (.int x0)] [] := by first | (simp [entryFrame, mkF, argsToLocals, Value.category]; done) | rfl
def Q1_t (Z : State) (p1 : Int32) (w2 : Addr) (h0 : Heap) (n0 : Nat) (v : Option Value) (h : Heap) (L : List Loc) : Prop := v = some (.ref w2) ∧ Fr n0 L ∧ h = h0
set_option maxRecDepth 65536 in
set_option maxHeartbeats 40000000 in
theorem rm1_t (l : Launch) (Z : State) (a0 : Array Value) (hw : ∀ d ∈ tables_1, d.before a0 Z = true) (ws : List Jvm.Cond) (p1 : Int32) (w2 : Addr) (h0 : Heap) (n0 : Nat) (Z0 : n0 ≤ h0.size) (S_FALSE : Sta Z h0 "com/example/huron/huron/Value" "FALSE" "Lcom/example/huron/huron/Value$Bool;" (.ref w2)) (hc1 : p1 = (0 : Int32)) :
    MetFree l (⟨"com/example/huron/huron/Value", "of", "(Z)Lcom/example/huron/huron/Value$Bool;"⟩ : MethodName) (head1 (Jvm.Cond.code (⟨"com/example/huron/huron/Value", "of", "(Z)Lcom/example/huron/huron/Value$Bool;"⟩ : MethodName) prog_104_method_1_code 1 (some (.object "com/example/huron/huron/Value$Bool")) :: ws) ({ frames := 0, cells := 0, slots := 0, locals := 0 } : Room)) (fun a U => a = #[(.int p1)] ∧ Z.Warmed39 U.vm ∧ U.heap = h0) (fun _ _ _ _ _ => True) (fun _ U o U' => ∃ v L, o = .returned v ∧ Q1_t Z p1 w2 h0 n0 v U'.heap L ∧ FrameEnd U o U' L ({ frames := 0, cells := 0, slots := 0, locals := 0 } : Room).cells ({ frames := 0, cells := 0, slots := 0, locals := 0 } : Room).slots) := by
  refine MetFree.of_bodySF (plainFor_of_name pn_1) hisR ?_
  intro p e s m args below meth c s₁ Bd hml0 hP hK
  obtain ⟨rfl, hZ, hh⟩ := hP
  have hx := Bd.exec
  have hby := Bd.bytes
  have hml : c.maxLocals = 1 := hml0
  have hown : s.vm.findClass "com/example/huron/huron/Value" = some m.cls := findClass_of_methodNamed Bd.named
  have hnm := (name_of_methodNamed Bd.named Bd.method).1
  have X0 : Stand p l e ({ frames := 0, cells := 0, slots := 0, locals := 0 } : Room) s m #[(.int p1)] below meth c s₁ [] 0 0 := Stand.of_body Bd
  have e0 : s₁.heap = h0 := by rw [← hh, Bd.state]; rfl
  have N0 := Fr.nil n0
  have pre0 : ∀ t, Steps p.tables e below (s₁.setTop (mkF m 0 #[.val (.int p1)] [])) t → Steps p.tables e below (s₁.setTop (entryFrame m #[(.int p1)] 1)) t := fun t k => castTop (ef_1 m p1) k
  -- 3. LAWS
  obtain ⟨T3, X3, e3, st3⟩ := getS2 X0 hx hZ hown (host := "") (Or.inl (hw _ (List.mem_of_getElem? (i := 4) rfl))) Via.refl e0 S_FALSE (g := (mkF m 10 #[.val (.int p1)] [])) rfl (hb hby d1_10)
  obtain ⟨fs, hr, hrun, hended, hW, hsame⟩ := X3.leave (v := some (.ref w2)) (fun h => by rw [Bd.returns] at h; cases h)
  refine ⟨_, _, pre0 _ ?_, hrun, hended, _, _, rfl, ?_, ⟨_, rfl⟩, hW, hsame.mono (by decide) (by decide)⟩
  -- 4. STEPS
  · show Steps p.tables e below (s₁.setTop (mkF m 0 #[.val (.int p1)] [])) _
    refine XS.iloadN X0.here hx rfl (hb hby d1_0) rfl ?_
    show Steps p.tables e below (s₁.setTop (mkF m 1 #[.val (.int p1)] [(.int p1)])) _
    refine XS.ifYes X0.here hx rfl (pc0 := 1) (pc' := 10) rfl (hb hby d1_1) rfl ((if0 _ _).trans (teq hc1).1) (by decide) (by decide) ?_
    show Steps p.tables e below (s₁.setTop (mkF m 10 #[.val (.int p1)] [])) _
    refine st3 _ ?_
    show Steps p.tables e below (T3.setTop (mkF m 13 #[.val (.int p1)] [(.ref w2)])) _
    jvm_step X3.here [X3.here.top, hx, (hb hby d1_13), X3.method', Bd.returns, Value.isRef, FieldType.isReference]
    first | (intro acts; rw [hr _ acts rfl rfl rfl]) | rw [hr _ _ rfl rfl rfl]
    exact Steps.refl _
  · show Q1_t Z p1 w2 h0 n0 _ T3.heap _
    rw [e3]
    exact ⟨rfl, N0, rfl⟩
theorem d1_4 : decode prog_104_method_1_code 4 = .ok (.getstatic 1, 3) := by decide +kernel
theorem d1_7 : decode prog_104_method_1_code 7 = .ok (.goto 6, 3) := by decide +kernel
def Q1_f (Z : State) (p1 : Int32) (w2 : Addr) (h0 : Heap) (n0 : Nat) (v : Option Value) (h : Heap) (L : List Loc) : Prop := v = some (.ref w2) ∧ Fr n0 L ∧ h = h0
set_option maxRecDepth 65536 in
set_option maxHeartbeats 40000000 in
theorem rm1_f (l : Launch) (Z : State) (a0 : Array Value) (hw : ∀ d ∈ tables_1, d.before a0 Z = true) (ws : List Jvm.Cond) (p1 : Int32) (w2 : Addr) (h0 : Heap) (n0 : Nat) (Z0 : n0 ≤ h0.size) (S_TRUE : Sta Z h0 "com/example/huron/huron/Value" "TRUE" "Lcom/example/huron/huron/Value$Bool;" (.ref w2)) (hc1 : ¬ (p1 = (0 : Int32))) :
    MetFree l (⟨"com/example/huron/huron/Value", "of", "(Z)Lcom/example/huron/huron/Value$Bool;"⟩ : MethodName) (head1 (Jvm.Cond.code (⟨"com/example/huron/huron/Value", "of", "(Z)Lcom/example/huron/huron/Value$Bool;"⟩ : MethodName) prog_104_method_1_code 1 (some (.object "com/example/huron/huron/Value$Bool")) :: ws) ({ frames := 0, cells := 0, slots := 0, locals := 0 } : Room)) (fun a U => a = #[(.int p1)] ∧ Z.Warmed39 U.vm ∧ U.heap = h0) (fun _ _ _ _ _ => True) (fun _ U o U' => ∃ v L, o = .returned v ∧ Q1_f Z p1 w2 h0 n0 v U'.heap L ∧ FrameEnd U o U' L ({ frames := 0, cells := 0, slots := 0, locals := 0 } : Room).cells ({ frames := 0, cells := 0, slots := 0, locals := 0 } : Room).slots) := by
  refine MetFree.of_bodySF (plainFor_of_name pn_1) hisR ?_
  intro p e s m args below meth c s₁ Bd hml0 hP hK
  obtain ⟨rfl, hZ, hh⟩ := hP
  have hx := Bd.exec
  have hby := Bd.bytes
  have hml : c.maxLocals = 1 := hml0
  have hown : s.vm.findClass "com/example/huron/huron/Value" = some m.cls := findClass_of_methodNamed Bd.named
  have hnm := (name_of_methodNamed Bd.named Bd.method).1
  have X0 : Stand p l e ({ frames := 0, cells := 0, slots := 0, locals := 0 } : Room) s m #[(.int p1)] below meth c s₁ [] 0 0 := Stand.of_body Bd
  have e0 : s₁.heap = h0 := by rw [← hh, Bd.state]; rfl
  have N0 := Fr.nil n0
  have pre0 : ∀ t, Steps p.tables e below (s₁.setTop (mkF m 0 #[.val (.int p1)] [])) t → Steps p.tables e below (s₁.setTop (entryFrame m #[(.int p1)] 1)) t := fun t k => castTop (ef_1 m p1) k
  -- 3. LAWS
  obtain ⟨T3, X3, e3, st3⟩ := getS2 X0 hx hZ hown (host := "") (Or.inl (hw _ (List.mem_of_getElem? (i := 15) rfl))) Via.refl e0 S_TRUE (g := (mkF m 4 #[.val (.int p1)] [])) rfl (hb hby d1_4)
  obtain ⟨fs, hr, hrun, hended, hW, hsame⟩ := X3.leave (v := some (.ref w2)) (fun h => by rw [Bd.returns] at h; cases h)
  refine ⟨_, _, pre0 _ ?_, hrun, hended, _, _, rfl, ?_, ⟨_, rfl⟩, hW, hsame.mono (by decide) (by decide)⟩
  -- 4. STEPS
  · show Steps p.tables e below (s₁.setTop (mkF m 0 #[.val (.int p1)] [])) _
    refine XS.iloadN X0.here hx rfl (hb hby d1_0) rfl ?_
    show Steps p.tables e below (s₁.setTop (mkF m 1 #[.val (.int p1)] [(.int p1)])) _
    refine XS.ifNo X0.here hx rfl (hb hby d1_1) rfl ((if0 _ _).trans (feq hc1).1) ?_
    show Steps p.tables e below (s₁.setTop (mkF m 4 #[.val (.int p1)] [])) _
    refine st3 _ ?_
    show Steps p.tables e below (T3.setTop (mkF m 7 #[.val (.int p1)] [(.ref w2)])) _
    refine XS.goto X3.here hx rfl (pc0 := 7) (pc' := 13) rfl (hb hby d1_7) (by decide) (by decide) ?_
    show Steps p.tables e below (T3.setTop (mkF m 13 #[.val (.int p1)] [(.ref w2)])) _
    jvm_step X3.here [X3.here.top, hx, (hb hby d1_13), X3.method', Bd.returns, Value.isRef, FieldType.isReference]
    first | (intro acts; rw [hr _ acts rfl rfl rfl]) | rw [hr _ _ rfl rfl rfl]
    exact Steps.refl _
  · show Q1_f Z p1 w2 h0 n0 _ T3.heap _
    rw [e3]
    exact ⟨rfl, N0, rfl⟩
theorem d2_0 : decode prog_105_method_5_code 0 = .ok (.aload_n 0, 1) := by decide +kernel
theorem d2_1 : decode prog_105_method_5_code 1 = .ok (.getfield 7, 3) := by decide +kernel
theorem d2_4 : decode prog_105_method_5_code 4 = .ok (.ireturn, 1) := by decide +kernel
theorem pn_2 : plainName "com/example/huron/huron/Value$Bool" = true := by first | (simp [plainName, overriddenIn]; done) | decide +kernel
theorem ef_2 (m : MethodId) (x0 : Addr) : entryFrame m #[(.ref x0)] 1 = mkF m 0 #[.val (.ref x0)] [] := by first | (simp [entryFrame, mkF, argsToLocals, Value.category]; done) | rfl
def Q2_0 (Z : State) (a1 : Addr) (h0 : Heap) (n0 : Nat) (v : Option Value) (h : Heap) (L : List Loc) : Prop := v = some (.int (0 : Int32)) ∧ Fr n0 L ∧ h = h0
set_option maxRecDepth 65536 in
set_option maxHeartbeats 40000000 in
theorem rm2_0 (l : Launch) (Z : State) (a0 : Array Value) (hw : ∀ d ∈ tables_1, d.before a0 Z = true) (ws : List Jvm.Cond) (a1 : Addr) (h0 : Heap) (n0 : Nat) (Z0 : n0 ≤ h0.size) (F_value_a1 : Fld Z h0 a1 "com/example/huron/huron/Value$Bool" "value" "Z" (.int (0 : Int32))) :
    MetFree l (⟨"com/example/huron/huron/Value$Bool", "value", "()Z"⟩ : MethodName) (head1 (Jvm.Cond.code (⟨"com/example/huron/huron/Value$Bool", "value", "()Z"⟩ : MethodName) prog_105_method_5_code 1 (some .boolean) :: ws) ({ frames := 0, cells := 0, slots := 0, locals := 0 } : Room)) (fun a U => a = #[(.ref a1)] ∧ Z.Warmed39 U.vm ∧ U.heap = h0) (fun _ _ _ _ _ => True) (fun _ U o U' => ∃ v L, o = .returned v ∧ Q2_0 Z a1 h0 n0 v U'.heap L ∧ FrameEnd U o U' L ({ frames := 0, cells := 0, slots := 0, locals := 0 } : Room).cells ({ frames := 0, cells := 0, slots := 0, locals := 0 } : Room).slots) := by
  refine MetFree.of_bodySF (plainFor_of_name pn_2) hisR ?_
  intro p e s m args below meth c s₁ Bd hml0 hP hK
  obtain ⟨rfl, hZ, hh⟩ := hP
  have hx := Bd.exec
  have hby := Bd.bytes
  have hml : c.maxLocals = 1 := hml0
  have hown : s.vm.findClass "com/example/huron/huron/Value$Bool" = some m.cls := findClass_of_methodNamed Bd.named
  have hnm := (name_of_methodNamed Bd.named Bd.method).1
  have X0 : Stand p l e ({ frames := 0, cells := 0, slots := 0, locals := 0 } : Room) s m #[(.ref a1)] below meth c s₁ [] 0 0 := Stand.of_body Bd
  have e0 : s₁.heap = h0 := by rw [← hh, Bd.state]; rfl
  have N0 := Fr.nil n0
  have pre0 : ∀ t, Steps p.tables e below (s₁.setTop (mkF m 0 #[.val (.ref a1)] [])) t → Steps p.tables e below (s₁.setTop (entryFrame m #[(.ref a1)] 1)) t := fun t k => castTop (ef_2 m a1) k
  -- 3. LAWS
  obtain ⟨T3, X3, e3, st3⟩ := getF X0 hx hZ hown (host := "") (Or.inl (hw _ (List.mem_of_getElem? (i := 13) rfl))) Via.refl e0 F_value_a1 (g := (mkF m 1 #[.val (.ref a1)] [(.ref a1)])) rfl rfl (hb hby d2_1)
  obtain ⟨fs, hr, hrun, hended, hW, hsame⟩ := X3.leave (v := some (.int (0 : Int32))) (fun h => by rw [Bd.returns] at h; cases h)
  refine ⟨_, _, pre0 _ ?_, hrun, hended, _, _, rfl, ?_, ⟨_, rfl⟩, hW, hsame.mono (by decide) (by decide)⟩
  -- 4. STEPS
  · show Steps p.tables e below (s₁.setTop (mkF m 0 #[.val (.ref a1)] [])) _
    refine XS.aloadN X0.here hx rfl (hb hby d2_0) rfl rfl ?_
    show Steps p.tables e below (s₁.setTop (mkF m 1 #[.val (.ref a1)] [(.ref a1)])) _
    refine st3 _ ?_
    show Steps p.tables e below (T3.setTop (mkF m 4 #[.val (.ref a1)] [(.int (0 : Int32))])) _
    exact retN X3 hx (t := .boolean) Bd.returns (by simp) (hb hby d2_4) hr
  · show Q2_0 Z a1 h0 n0 _ T3.heap _
    rw [e3]
    exact ⟨rfl, N0, rfl⟩
def Q2_1 (Z : State) (a1 : Addr) (h0 : Heap) (n0 : Nat) (v : Option Value) (h : Heap) (L : List Loc) : Prop := v = some (.int (1 : Int32)) ∧ Fr n0 L ∧ h = h0
set_option maxRecDepth 65536 in
set_option maxHeartbeats 40000000 in
theorem rm2_1 (l : Launch) (Z : State) (a0 : Array Value) (hw : ∀ d ∈ tables_1, d.before a0 Z = true) (ws : List Jvm.Cond) (a1 : Addr) (h0 : Heap) (n0 : Nat) (Z0 : n0 ≤ h0.size) (F_value_a1 : Fld Z h0 a1 "com/example/huron/huron/Value$Bool" "value" "Z" (.int (1 : Int32))) :
    MetFree l (⟨"com/example/huron/huron/Value$Bool", "value", "()Z"⟩ : MethodName) (head1 (Jvm.Cond.code (⟨"com/example/huron/huron/Value$Bool", "value", "()Z"⟩ : MethodName) prog_105_method_5_code 1 (some .boolean) :: ws) ({ frames := 0, cells := 0, slots := 0, locals := 0 } : Room)) (fun a U => a = #[(.ref a1)] ∧ Z.Warmed39 U.vm ∧ U.heap = h0) (fun _ _ _ _ _ => True) (fun _ U o U' => ∃ v L, o = .returned v ∧ Q2_1 Z a1 h0 n0 v U'.heap L ∧ FrameEnd U o U' L ({ frames := 0, cells := 0, slots := 0, locals := 0 } : Room).cells ({ frames := 0, cells := 0, slots := 0, locals := 0 } : Room).slots) := by
  refine MetFree.of_bodySF (plainFor_of_name pn_2) hisR ?_
  intro p e s m args below meth c s₁ Bd hml0 hP hK
  obtain ⟨rfl, hZ, hh⟩ := hP
  have hx := Bd.exec
  have hby := Bd.bytes
  have hml : c.maxLocals = 1 := hml0
  have hown : s.vm.findClass "com/example/huron/huron/Value$Bool" = some m.cls := findClass_of_methodNamed Bd.named
  have hnm := (name_of_methodNamed Bd.named Bd.method).1
  have X0 : Stand p l e ({ frames := 0, cells := 0, slots := 0, locals := 0 } : Room) s m #[(.ref a1)] below meth c s₁ [] 0 0 := Stand.of_body Bd
  have e0 : s₁.heap = h0 := by rw [← hh, Bd.state]; rfl
  have N0 := Fr.nil n0
  have pre0 : ∀ t, Steps p.tables e below (s₁.setTop (mkF m 0 #[.val (.ref a1)] [])) t → Steps p.tables e below (s₁.setTop (entryFrame m #[(.ref a1)] 1)) t := fun t k => castTop (ef_2 m a1) k
  -- 3. LAWS
  obtain ⟨T3, X3, e3, st3⟩ := getF X0 hx hZ hown (host := "") (Or.inl (hw _ (List.mem_of_getElem? (i := 13) rfl))) Via.refl e0 F_value_a1 (g := (mkF m 1 #[.val (.ref a1)] [(.ref a1)])) rfl rfl (hb hby d2_1)
  obtain ⟨fs, hr, hrun, hended, hW, hsame⟩ := X3.leave (v := some (.int (1 : Int32))) (fun h => by rw [Bd.returns] at h; cases h)
  refine ⟨_, _, pre0 _ ?_, hrun, hended, _, _, rfl, ?_, ⟨_, rfl⟩, hW, hsame.mono (by decide) (by decide)⟩
  -- 4. STEPS
  · show Steps p.tables e below (s₁.setTop (mkF m 0 #[.val (.ref a1)] [])) _
    refine XS.aloadN X0.here hx rfl (hb hby d2_0) rfl rfl ?_
    show Steps p.tables e below (s₁.setTop (mkF m 1 #[.val (.ref a1)] [(.ref a1)])) _
    refine st3 _ ?_
    show Steps p.tables e below (T3.setTop (mkF m 4 #[.val (.ref a1)] [(.int (1 : Int32))])) _
    exact retN X3 hx (t := .boolean) Bd.returns (by simp) (hb hby d2_4) hr
  · show Q2_1 Z a1 h0 n0 _ T3.heap _
    rw [e3]
    exact ⟨rfl, N0, rfl⟩
theorem own_eqInt {args : Array Value} {s : State} {t : Term} {k : Int32} (h : (Jvm.Cond.eq t (.int k)).value args s none s [] = some true) : t.eval args s none [] s = some (.int k) := by
  obtain ⟨x, y, e1, e2, -, k2⟩ := cmp_v (Or.inl h)
  cases e2
  obtain ⟨z, rfl⟩ := k2
  simp only [Cond.value, e1, Term.eval] at h
  simp at h
  rw [e1, h]
theorem pn_0 : plainName "com/example/huron/huron/ValueOfPinLaw" = true := by first | (simp [plainName, overriddenIn]; done) | decide +kernel
theorem pd_0_0 : parseMethodDescriptor "(Z)Lcom/example/huron/huron/Value$Bool;" = some ⟨[.boolean], some (.object "com/example/huron/huron/Value$Bool")⟩ := by decide +kernel
theorem pd_0_1 : parseMethodDescriptor "()Z" = some ⟨[], some .boolean⟩ := by decide +kernel
theorem ef_0 (m : MethodId) (x0 : Int32) : entryFrame m #[(.int x0)] maxLocals = mkF m 0 #[.val (.int x0), .unset, .unset, .unset] [] := by first | (simp [entryFrame, mkF, argsToLocals, Value.category, maxLocals]; done) | rfl
def Q0_ftffff (Z : State) (p1 : Int32) (w3 : Addr) (h0 : Heap) (n0 : Nat) (v : Option Value) (h : Heap) (L : List Loc) : Prop := v = some (.int (1 : Int32)) ∧ Fr n0 L
set_option maxRecDepth 65536 in
set_option maxHeartbeats 40000000 in
theorem rm0_ftffff (l : Launch) (Z : State) (a0 : Array Value) (hw : ∀ d ∈ tables_1, d.before a0 Z = true) (ws : List Jvm.Cond) (p1 : Int32) (w3 : Addr) (h0 : Heap) (n0 : Nat) (Z0 : n0 ≤ h0.size) (E_w3 : Exa Z h0 w3 "com/example/huron/huron/Value$Bool") (F_w3 : Fld Z h0 w3 "com/example/huron/huron/Value$Bool" "value" "Z" (.int (1 : Int32))) (S_TRUE : Sta Z h0 "com/example/huron/huron/Value" "TRUE" "Lcom/example/huron/huron/Value$Bool;" (.ref w3)) (hc3 : ¬ ((p1 &&& (1 : Int32)) = (0 : Int32))) (hc24 : ¬ ((1 : Int32) = (0 : Int32))) (ha31 : w3 = w3) (hc65 : ¬ ((1 : Int32) = (0 : Int32))) :
    MetFree l x (head1 (Jvm.Cond.code x code maxLocals ret :: ws) room_1) (fun a U => a = #[(.int p1)] ∧ Z.Warmed39 U.vm ∧ U.heap = h0) (fun _ _ _ _ _ => True) (fun _ U o U' => ∃ v L, o = .returned v ∧ Q0_ftffff Z p1 w3 h0 n0 v U'.heap L ∧ FrameEnd U o U' L room_1.cells room_1.slots) := by
  refine MetFree.of_bodySF (plainFor_of_name pn_0) hisR ?_
  intro p e s m args below meth c s₁ Bd hml0 hP hK
  obtain ⟨rfl, hZ, hh⟩ := hP
  have hx := Bd.exec
  have hby := Bd.bytes
  have hml : c.maxLocals = 4 := hml0
  have hown : s.vm.findClass "com/example/huron/huron/ValueOfPinLaw" = some m.cls := findClass_of_methodNamed Bd.named
  have hnm := (name_of_methodNamed Bd.named Bd.method).1
  have X0 : Stand p l e room_1 s m #[(.int p1)] below meth c s₁ [] 0 0 := Stand.of_body Bd
  have e0 : s₁.heap = h0 := by rw [← hh, Bd.state]; rfl
  have N0 := Fr.nil n0
  have pre0 : ∀ t, Steps p.tables e below (s₁.setTop (mkF m 0 #[.val (.int p1), .unset, .unset, .unset] [])) t → Steps p.tables e below (s₁.setTop (entryFrame m #[(.int p1)] maxLocals)) t := fun t k => castTop (ef_0 m p1) k
  -- 3. LAWS
  -- pc 13: com/example/huron/huron/Value.of by its contract rm1
  obtain ⟨_, _, ⟨T2, L2, k2, n2⟩, -, X2, ⟨Lc2, hQ2, l2, y2, z2⟩, st2⟩ := Jvm.LawKit.callS X0 hx (y := (⟨"com/example/huron/huron/Value", "of", "(Z)Lcom/example/huron/huron/Value$Bool;"⟩ : MethodName)) hown (mvT hZ (hw _ (List.mem_of_getElem? (i := 0) rfl))) (mvT hZ (hw _ (List.mem_of_getElem? (i := 1) rfl))) (mvT hZ (hw _ (List.mem_of_getElem? (i := 2) rfl))) (mvT hZ (hw _ (List.mem_of_getElem? (i := 3) rfl))) (by decide) (backOf (W := 0) (rm1_f l Z a0 hw [] (1 : Int32) w3 h0 n0 Z0 S_TRUE (by decide)) hZ (hw _ (List.mem_of_getElem? (i := 3) rfl)) (hw _ (List.mem_of_getElem? (i := 2) rfl)) (by decide) (by decide)) (g := (mkF m 13 #[.val (.int p1), .val (.int (1 : Int32)), .unset, .unset] [(.int (1 : Int32))])) rfl (by rw [hml]; rfl) (argsL := [(.int (1 : Int32))]) (rest := []) (lenOf pd_0_0 rfl) rfl (by show 2 * 0 + _ ≤ _; exact Nat.le_of_eq rfl) (hb hby at_13) (fun _ _ => ⟨rfl, e0, (by decide : 0 + 0 ≤ _), (by decide : 0 + 0 ≤ _)⟩)
  dsimp only [Pt.U, Pt.locs, Pt.cells, Pt.slots] at X2 l2 y2 z2 st2 hQ2
  subst l2 y2 z2
  obtain ⟨rfl, N2q, e2⟩ := hQ2      -- what it returned, that it wrote nothing old, and the rest of your Q1
  have N2 := Fr.app N0 N2q
  -- ✋ yours: S_TRUE must speak of T2.heap here (carried as the other facts are)
  obtain ⟨T4, X4, e4, st4⟩ := getS2 X2 hx hZ hown (host := "") (Or.inl (hw _ (List.mem_of_getElem? (i := 17) rfl))) Via.refl e2 S_TRUE (g := (mkF m 28 #[.val (.int p1), .val (.int (1 : Int32)), .val (.ref w3), .unset] [(.ref w3)])) rfl (hb hby at_28)
  -- pc 57: com/example/huron/huron/Value$Bool.value by the contract of the body that the receiver's class selects, rm2
  -- ✋ yours, out of the call's Q: E_w3 : Exa Z h0 w3 "com/example/huron/huron/Value$Bool"
  obtain ⟨cq5, kq5, q5a, q5b, q5c⟩ := isOf hZ e4 (E_w3)
  obtain ⟨_, _, ⟨T5, L5, k5, n5⟩, -, X5, ⟨Lc5, hQ5, l5, y5, z5⟩, st5⟩ := X4.virtualBack hx (y := (⟨"com/example/huron/huron/Value$Bool", "value", "()Z"⟩ : MethodName)) (z := (⟨"com/example/huron/huron/Value$Bool", "value", "()Z"⟩ : MethodName)) hown (mvT hZ (hw _ (List.mem_of_getElem? (i := 7) rfl))) (mvT hZ (hw _ (List.mem_of_getElem? (i := 8) rfl))) (notFace_of_selects (args := #[]) (mvT hZ (hw _ (List.mem_of_getElem? (i := 10) rfl)))) (mvT hZ (hw _ (List.mem_of_getElem? (i := 10) rfl))) (mvT hZ (hw _ (List.mem_of_getElem? (i := 9) rfl))) (by decide) (backOf (W := 0) (rm2_1 l Z a0 hw [] w3 h0 n0 Z0 F_w3) hZ (hw _ (List.mem_of_getElem? (i := 12) rfl)) (hw _ (List.mem_of_getElem? (i := 11) rfl)) (by decide) (by decide)) q5a q5c (g := (mkF m 57 #[.val (.int p1), .val (.int (1 : Int32)), .val (.ref w3), .val (.int (1 : Int32))] [(.ref w3)])) rfl (by rw [hml]; rfl) (Steps.refl _) (argsL := []) (rest := []) (lenOf pd_0_1 rfl) rfl (by show 2 * 0 + _ ≤ _; exact Nat.le_of_eq rfl) (hb hby at_57) (fun _ _ => ⟨rfl, e4, (by decide : 0 + 0 ≤ _), (by decide : 0 + 0 ≤ _)⟩)
  dsimp only [Pt.U, Pt.locs, Pt.cells, Pt.slots] at X5 l5 y5 z5 st5 hQ5
  subst l5 y5 z5
  obtain ⟨rfl, N5q, e5⟩ := hQ5      -- what it returned, that it wrote nothing old, and the rest of your Q2
  have N5 := Fr.app N2 N5q
  obtain ⟨fs, hr, hrun, hended, hW, hsame⟩ := X5.leave (v := some (.int (1 : Int32))) (fun h => by rw [Bd.returns] at h; cases h)
  refine ⟨_, _, pre0 _ ?_, hrun, hended, _, _, rfl, ?_, ⟨_, rfl⟩, hW, hsame.mono (by decide) (by decide)⟩
  -- 4. STEPS
  · show Steps p.tables e below (s₁.setTop (mkF m 0 #[.val (.int p1), .unset, .unset, .unset] [])) _
    refine XS.iloadN X0.here hx rfl (hb hby at_0) rfl ?_
    show Steps p.tables e below (s₁.setTop (mkF m 1 #[.val (.int p1), .unset, .unset, .unset] [(.int p1)])) _
    refine XS.iconst X0.here hx rfl (hb hby at_1) ?_
    show Steps p.tables e below (s₁.setTop (mkF m 2 #[.val (.int p1), .unset, .unset, .unset] [(.int (1 : Int32)), (.int p1)])) _
    refine XS.iand X0.here hx rfl (hb hby at_2) rfl ?_
    show Steps p.tables e below (s₁.setTop (mkF m 3 #[.val (.int p1), .unset, .unset, .unset] [(.int (p1 &&& (1 : Int32)))])) _
    refine XS.ifNo X0.here hx rfl (hb hby at_3) rfl ((if0 _ _).trans (feq hc3).1) ?_
    show Steps p.tables e below (s₁.setTop (mkF m 6 #[.val (.int p1), .unset, .unset, .unset] [])) _
    refine XS.iconst X0.here hx rfl (hb hby at_6) ?_
    show Steps p.tables e below (s₁.setTop (mkF m 7 #[.val (.int p1), .unset, .unset, .unset] [(.int (1 : Int32))])) _
    refine XS.goto X0.here hx rfl (pc0 := 7) (pc' := 11) rfl (hb hby at_7) (by decide) (by decide) ?_
    show Steps p.tables e below (s₁.setTop (mkF m 11 #[.val (.int p1), .unset, .unset, .unset] [(.int (1 : Int32))])) _
    refine XS.istoreN X0.here hx rfl (hb hby at_11) rfl (l' := #[.val (.int p1), .val (.int (1 : Int32)), .unset, .unset]) rfl ?_
    show Steps p.tables e below (s₁.setTop (mkF m 12 #[.val (.int p1), .val (.int (1 : Int32)), .unset, .unset] [])) _
    refine XS.iloadN X0.here hx rfl (hb hby at_12) rfl ?_
    show Steps p.tables e below (s₁.setTop (mkF m 13 #[.val (.int p1), .val (.int (1 : Int32)), .unset, .unset] [(.int (1 : Int32))])) _
    refine st2 _ ?_
    show Steps p.tables e below (T2.setTop (mkF m 16 #[.val (.int p1), .val (.int (1 : Int32)), .unset, .unset] [(.ref w3)])) _
    refine XS.astoreN X2.here hx rfl (hb hby at_16) rfl rfl (l' := #[.val (.int p1), .val (.int (1 : Int32)), .val (.ref w3), .unset]) rfl ?_
    show Steps p.tables e below (T2.setTop (mkF m 17 #[.val (.int p1), .val (.int (1 : Int32)), .val (.ref w3), .unset] [])) _
    refine XS.aloadN X2.here hx rfl (hb hby at_17) rfl rfl ?_
    show Steps p.tables e below (T2.setTop (mkF m 18 #[.val (.int p1), .val (.int (1 : Int32)), .val (.ref w3), .unset] [(.ref w3)])) _
    refine XS.ifnonnullYes X2.here hx rfl (pc0 := 18) (pc' := 23) rfl (hb hby at_18) rfl (by decide) (by decide) ?_
    show Steps p.tables e below (T2.setTop (mkF m 23 #[.val (.int p1), .val (.int (1 : Int32)), .val (.ref w3), .unset] [])) _
    refine XS.iloadN X2.here hx rfl (hb hby at_23) rfl ?_
    show Steps p.tables e below (T2.setTop (mkF m 24 #[.val (.int p1), .val (.int (1 : Int32)), .val (.ref w3), .unset] [(.int (1 : Int32))])) _
    refine XS.ifNo X2.here hx rfl (hb hby at_24) rfl ((if0 _ _).trans (feq hc24).1) ?_
    show Steps p.tables e below (T2.setTop (mkF m 27 #[.val (.int p1), .val (.int (1 : Int32)), .val (.ref w3), .unset] [])) _
    refine XS.aloadN X2.here hx rfl (hb hby at_27) rfl rfl ?_
    show Steps p.tables e below (T2.setTop (mkF m 28 #[.val (.int p1), .val (.int (1 : Int32)), .val (.ref w3), .unset] [(.ref w3)])) _
    refine st4 _ ?_
    show Steps p.tables e below (T4.setTop (mkF m 31 #[.val (.int p1), .val (.int (1 : Int32)), .val (.ref w3), .unset] [(.ref w3), (.ref w3)])) _
    refine Jvm.RoadKit.acmp (g := (mkF m 31 #[.val (.int p1), .val (.int (1 : Int32)), .val (.ref w3), .unset] [(.ref w3), (.ref w3)])) X4 hx rfl rfl rfl (pc0 := 31) (pc' := 34) (same := true) rfl (hb hby at_31) rfl (decide_eq_true (congrArg Value.ref ha31)) (by decide) (by decide) ?_
    show Steps p.tables e below (T4.setTop (mkF m 34 #[.val (.int p1), .val (.int (1 : Int32)), .val (.ref w3), .unset] [])) _
    refine XS.iconst X4.here hx rfl (hb hby at_34) ?_
    show Steps p.tables e below (T4.setTop (mkF m 35 #[.val (.int p1), .val (.int (1 : Int32)), .val (.ref w3), .unset] [(.int (1 : Int32))])) _
    refine XS.goto X4.here hx rfl (pc0 := 35) (pc' := 39) rfl (hb hby at_35) (by decide) (by decide) ?_
    show Steps p.tables e below (T4.setTop (mkF m 39 #[.val (.int p1), .val (.int (1 : Int32)), .val (.ref w3), .unset] [(.int (1 : Int32))])) _
    refine XS.istoreN X4.here hx rfl (hb hby at_39) rfl (l' := #[.val (.int p1), .val (.int (1 : Int32)), .val (.ref w3), .val (.int (1 : Int32))]) rfl ?_
    show Steps p.tables e below (T4.setTop (mkF m 40 #[.val (.int p1), .val (.int (1 : Int32)), .val (.ref w3), .val (.int (1 : Int32))] [])) _
    refine XS.goto X4.here hx rfl (pc0 := 40) (pc' := 56) rfl (hb hby at_40) (by decide) (by decide) ?_
    show Steps p.tables e below (T4.setTop (mkF m 56 #[.val (.int p1), .val (.int (1 : Int32)), .val (.ref w3), .val (.int (1 : Int32))] [])) _
    refine XS.aloadN X4.here hx rfl (hb hby at_56) rfl rfl ?_
    show Steps p.tables e below (T4.setTop (mkF m 57 #[.val (.int p1), .val (.int (1 : Int32)), .val (.ref w3), .val (.int (1 : Int32))] [(.ref w3)])) _
    refine st5.trans ?_
    show Steps p.tables e below (T5.setTop (mkF m 60 #[.val (.int p1), .val (.int (1 : Int32)), .val (.ref w3), .val (.int (1 : Int32))] [(.int (1 : Int32))])) _
    refine XS.iloadN X5.here hx rfl (hb hby at_60) rfl ?_
    show Steps p.tables e below (T5.setTop (mkF m 61 #[.val (.int p1), .val (.int (1 : Int32)), .val (.ref w3), .val (.int (1 : Int32))] [(.int (1 : Int32)), (.int (1 : Int32))])) _
    refine XS.icmpNo X5.here hx rfl (hb hby at_61) rfl (teq (rfl : (1 : Int32) = (1 : Int32))).2 ?_
    show Steps p.tables e below (T5.setTop (mkF m 64 #[.val (.int p1), .val (.int (1 : Int32)), .val (.ref w3), .val (.int (1 : Int32))] [])) _
    refine XS.iloadN X5.here hx rfl (hb hby at_64) rfl ?_
    show Steps p.tables e below (T5.setTop (mkF m 65 #[.val (.int p1), .val (.int (1 : Int32)), .val (.ref w3), .val (.int (1 : Int32))] [(.int (1 : Int32))])) _
    refine XS.ifNo X5.here hx rfl (hb hby at_65) rfl ((if0 _ _).trans (feq hc65).1) ?_
    show Steps p.tables e below (T5.setTop (mkF m 68 #[.val (.int p1), .val (.int (1 : Int32)), .val (.ref w3), .val (.int (1 : Int32))] [])) _
    refine XS.iconst X5.here hx rfl (hb hby at_68) ?_
    show Steps p.tables e below (T5.setTop (mkF m 69 #[.val (.int p1), .val (.int (1 : Int32)), .val (.ref w3), .val (.int (1 : Int32))] [(.int (1 : Int32))])) _
    refine XS.goto X5.here hx rfl (pc0 := 69) (pc' := 73) rfl (hb hby at_69) (by decide) (by decide) ?_
    show Steps p.tables e below (T5.setTop (mkF m 73 #[.val (.int p1), .val (.int (1 : Int32)), .val (.ref w3), .val (.int (1 : Int32))] [(.int (1 : Int32))])) _
    exact retN X5 hx (t := .boolean) Bd.returns (by simp) (hb hby at_73) hr
  · show Q0_ftffff Z p1 w3 h0 n0 _ T5.heap _
    exact ⟨rfl, N5⟩
def Q0_tttfff (Z : State) (p1 : Int32) (w3 : Addr) (h0 : Heap) (n0 : Nat) (v : Option Value) (h : Heap) (L : List Loc) : Prop := v = some (.int (1 : Int32)) ∧ Fr n0 L
set_option maxRecDepth 65536 in
set_option maxHeartbeats 40000000 in
theorem rm0_tttfff (l : Launch) (Z : State) (a0 : Array Value) (hw : ∀ d ∈ tables_1, d.before a0 Z = true) (ws : List Jvm.Cond) (p1 : Int32) (w3 : Addr) (h0 : Heap) (n0 : Nat) (Z0 : n0 ≤ h0.size) (E_w3 : Exa Z h0 w3 "com/example/huron/huron/Value$Bool") (F_w3 : Fld Z h0 w3 "com/example/huron/huron/Value$Bool" "value" "Z" (.int (0 : Int32))) (S_FALSE : Sta Z h0 "com/example/huron/huron/Value" "FALSE" "Lcom/example/huron/huron/Value$Bool;" (.ref w3)) (hc3 : (p1 &&& (1 : Int32)) = (0 : Int32)) (ha47 : w3 = w3) (hc65 : ¬ ((1 : Int32) = (0 : Int32))) :
    MetFree l x (head1 (Jvm.Cond.code x code maxLocals ret :: ws) room_1) (fun a U => a = #[(.int p1)] ∧ Z.Warmed39 U.vm ∧ U.heap = h0) (fun _ _ _ _ _ => True) (fun _ U o U' => ∃ v L, o = .returned v ∧ Q0_tttfff Z p1 w3 h0 n0 v U'.heap L ∧ FrameEnd U o U' L room_1.cells room_1.slots) := by
  refine MetFree.of_bodySF (plainFor_of_name pn_0) hisR ?_
  intro p e s m args below meth c s₁ Bd hml0 hP hK
  obtain ⟨rfl, hZ, hh⟩ := hP
  have hx := Bd.exec
  have hby := Bd.bytes
  have hml : c.maxLocals = 4 := hml0
  have hown : s.vm.findClass "com/example/huron/huron/ValueOfPinLaw" = some m.cls := findClass_of_methodNamed Bd.named
  have hnm := (name_of_methodNamed Bd.named Bd.method).1
  have X0 : Stand p l e room_1 s m #[(.int p1)] below meth c s₁ [] 0 0 := Stand.of_body Bd
  have e0 : s₁.heap = h0 := by rw [← hh, Bd.state]; rfl
  have N0 := Fr.nil n0
  have pre0 : ∀ t, Steps p.tables e below (s₁.setTop (mkF m 0 #[.val (.int p1), .unset, .unset, .unset] [])) t → Steps p.tables e below (s₁.setTop (entryFrame m #[(.int p1)] maxLocals)) t := fun t k => castTop (ef_0 m p1) k
  -- 3. LAWS
  -- pc 13: com/example/huron/huron/Value.of by its contract rm1
  obtain ⟨_, _, ⟨T2, L2, k2, n2⟩, -, X2, ⟨Lc2, hQ2, l2, y2, z2⟩, st2⟩ := Jvm.LawKit.callS X0 hx (y := (⟨"com/example/huron/huron/Value", "of", "(Z)Lcom/example/huron/huron/Value$Bool;"⟩ : MethodName)) hown (mvT hZ (hw _ (List.mem_of_getElem? (i := 0) rfl))) (mvT hZ (hw _ (List.mem_of_getElem? (i := 1) rfl))) (mvT hZ (hw _ (List.mem_of_getElem? (i := 2) rfl))) (mvT hZ (hw _ (List.mem_of_getElem? (i := 3) rfl))) (by decide) (backOf (W := 0) (rm1_t l Z a0 hw [] (0 : Int32) w3 h0 n0 Z0 S_FALSE (by decide)) hZ (hw _ (List.mem_of_getElem? (i := 3) rfl)) (hw _ (List.mem_of_getElem? (i := 2) rfl)) (by decide) (by decide)) (g := (mkF m 13 #[.val (.int p1), .val (.int (0 : Int32)), .unset, .unset] [(.int (0 : Int32))])) rfl (by rw [hml]; rfl) (argsL := [(.int (0 : Int32))]) (rest := []) (lenOf pd_0_0 rfl) rfl (by show 2 * 0 + _ ≤ _; exact Nat.le_of_eq rfl) (hb hby at_13) (fun _ _ => ⟨rfl, e0, (by decide : 0 + 0 ≤ _), (by decide : 0 + 0 ≤ _)⟩)
  dsimp only [Pt.U, Pt.locs, Pt.cells, Pt.slots] at X2 l2 y2 z2 st2 hQ2
  subst l2 y2 z2
  obtain ⟨rfl, N2q, e2⟩ := hQ2      -- what it returned, that it wrote nothing old, and the rest of your Q1
  have N2 := Fr.app N0 N2q
  -- ✋ yours: S_FALSE must speak of T2.heap here (carried as the other facts are)
  obtain ⟨T4, X4, e4, st4⟩ := getS2 X2 hx hZ hown (host := "") (Or.inl (hw _ (List.mem_of_getElem? (i := 6) rfl))) Via.refl e2 S_FALSE (g := (mkF m 44 #[.val (.int p1), .val (.int (0 : Int32)), .val (.ref w3), .unset] [(.ref w3)])) rfl (hb hby at_44)
  -- pc 57: com/example/huron/huron/Value$Bool.value by the contract of the body that the receiver's class selects, rm2
  -- ✋ yours, out of the call's Q: E_w3 : Exa Z h0 w3 "com/example/huron/huron/Value$Bool"
  obtain ⟨cq5, kq5, q5a, q5b, q5c⟩ := isOf hZ e4 (E_w3)
  obtain ⟨_, _, ⟨T5, L5, k5, n5⟩, -, X5, ⟨Lc5, hQ5, l5, y5, z5⟩, st5⟩ := X4.virtualBack hx (y := (⟨"com/example/huron/huron/Value$Bool", "value", "()Z"⟩ : MethodName)) (z := (⟨"com/example/huron/huron/Value$Bool", "value", "()Z"⟩ : MethodName)) hown (mvT hZ (hw _ (List.mem_of_getElem? (i := 7) rfl))) (mvT hZ (hw _ (List.mem_of_getElem? (i := 8) rfl))) (notFace_of_selects (args := #[]) (mvT hZ (hw _ (List.mem_of_getElem? (i := 10) rfl)))) (mvT hZ (hw _ (List.mem_of_getElem? (i := 10) rfl))) (mvT hZ (hw _ (List.mem_of_getElem? (i := 9) rfl))) (by decide) (backOf (W := 0) (rm2_0 l Z a0 hw [] w3 h0 n0 Z0 F_w3) hZ (hw _ (List.mem_of_getElem? (i := 12) rfl)) (hw _ (List.mem_of_getElem? (i := 11) rfl)) (by decide) (by decide)) q5a q5c (g := (mkF m 57 #[.val (.int p1), .val (.int (0 : Int32)), .val (.ref w3), .val (.int (1 : Int32))] [(.ref w3)])) rfl (by rw [hml]; rfl) (Steps.refl _) (argsL := []) (rest := []) (lenOf pd_0_1 rfl) rfl (by show 2 * 0 + _ ≤ _; exact Nat.le_of_eq rfl) (hb hby at_57) (fun _ _ => ⟨rfl, e4, (by decide : 0 + 0 ≤ _), (by decide : 0 + 0 ≤ _)⟩)
  dsimp only [Pt.U, Pt.locs, Pt.cells, Pt.slots] at X5 l5 y5 z5 st5 hQ5
  subst l5 y5 z5
  obtain ⟨rfl, N5q, e5⟩ := hQ5      -- what it returned, that it wrote nothing old, and the rest of your Q2
  have N5 := Fr.app N2 N5q
  obtain ⟨fs, hr, hrun, hended, hW, hsame⟩ := X5.leave (v := some (.int (1 : Int32))) (fun h => by rw [Bd.returns] at h; cases h)
  refine ⟨_, _, pre0 _ ?_, hrun, hended, _, _, rfl, ?_, ⟨_, rfl⟩, hW, hsame.mono (by decide) (by decide)⟩
  -- 4. STEPS
  · show Steps p.tables e below (s₁.setTop (mkF m 0 #[.val (.int p1), .unset, .unset, .unset] [])) _
    refine XS.iloadN X0.here hx rfl (hb hby at_0) rfl ?_
    show Steps p.tables e below (s₁.setTop (mkF m 1 #[.val (.int p1), .unset, .unset, .unset] [(.int p1)])) _
    refine XS.iconst X0.here hx rfl (hb hby at_1) ?_
    show Steps p.tables e below (s₁.setTop (mkF m 2 #[.val (.int p1), .unset, .unset, .unset] [(.int (1 : Int32)), (.int p1)])) _
    refine XS.iand X0.here hx rfl (hb hby at_2) rfl ?_
    show Steps p.tables e below (s₁.setTop (mkF m 3 #[.val (.int p1), .unset, .unset, .unset] [(.int (p1 &&& (1 : Int32)))])) _
    refine XS.ifYes X0.here hx rfl (pc0 := 3) (pc' := 10) rfl (hb hby at_3) rfl ((if0 _ _).trans (teq hc3).1) (by decide) (by decide) ?_
    show Steps p.tables e below (s₁.setTop (mkF m 10 #[.val (.int p1), .unset, .unset, .unset] [])) _
    refine XS.iconst X0.here hx rfl (hb hby at_10) ?_
    show Steps p.tables e below (s₁.setTop (mkF m 11 #[.val (.int p1), .unset, .unset, .unset] [(.int (0 : Int32))])) _
    refine XS.istoreN X0.here hx rfl (hb hby at_11) rfl (l' := #[.val (.int p1), .val (.int (0 : Int32)), .unset, .unset]) rfl ?_
    show Steps p.tables e below (s₁.setTop (mkF m 12 #[.val (.int p1), .val (.int (0 : Int32)), .unset, .unset] [])) _
    refine XS.iloadN X0.here hx rfl (hb hby at_12) rfl ?_
    show Steps p.tables e below (s₁.setTop (mkF m 13 #[.val (.int p1), .val (.int (0 : Int32)), .unset, .unset] [(.int (0 : Int32))])) _
    refine st2 _ ?_
    show Steps p.tables e below (T2.setTop (mkF m 16 #[.val (.int p1), .val (.int (0 : Int32)), .unset, .unset] [(.ref w3)])) _
    refine XS.astoreN X2.here hx rfl (hb hby at_16) rfl rfl (l' := #[.val (.int p1), .val (.int (0 : Int32)), .val (.ref w3), .unset]) rfl ?_
    show Steps p.tables e below (T2.setTop (mkF m 17 #[.val (.int p1), .val (.int (0 : Int32)), .val (.ref w3), .unset] [])) _
    refine XS.aloadN X2.here hx rfl (hb hby at_17) rfl rfl ?_
    show Steps p.tables e below (T2.setTop (mkF m 18 #[.val (.int p1), .val (.int (0 : Int32)), .val (.ref w3), .unset] [(.ref w3)])) _
    refine XS.ifnonnullYes X2.here hx rfl (pc0 := 18) (pc' := 23) rfl (hb hby at_18) rfl (by decide) (by decide) ?_
    show Steps p.tables e below (T2.setTop (mkF m 23 #[.val (.int p1), .val (.int (0 : Int32)), .val (.ref w3), .unset] [])) _
    refine XS.iloadN X2.here hx rfl (hb hby at_23) rfl ?_
    show Steps p.tables e below (T2.setTop (mkF m 24 #[.val (.int p1), .val (.int (0 : Int32)), .val (.ref w3), .unset] [(.int (0 : Int32))])) _
    refine XS.ifYes X2.here hx rfl (pc0 := 24) (pc' := 43) rfl (hb hby at_24) rfl ((if0 _ _).trans (teq (rfl : (0 : Int32) = (0 : Int32))).1) (by decide) (by decide) ?_
    show Steps p.tables e below (T2.setTop (mkF m 43 #[.val (.int p1), .val (.int (0 : Int32)), .val (.ref w3), .unset] [])) _
    refine XS.aloadN X2.here hx rfl (hb hby at_43) rfl rfl ?_
    show Steps p.tables e below (T2.setTop (mkF m 44 #[.val (.int p1), .val (.int (0 : Int32)), .val (.ref w3), .unset] [(.ref w3)])) _
    refine st4 _ ?_
    show Steps p.tables e below (T4.setTop (mkF m 47 #[.val (.int p1), .val (.int (0 : Int32)), .val (.ref w3), .unset] [(.ref w3), (.ref w3)])) _
    refine Jvm.RoadKit.acmp (g := (mkF m 47 #[.val (.int p1), .val (.int (0 : Int32)), .val (.ref w3), .unset] [(.ref w3), (.ref w3)])) X4 hx rfl rfl rfl (pc0 := 47) (pc' := 50) (same := true) rfl (hb hby at_47) rfl (decide_eq_true (congrArg Value.ref ha47)) (by decide) (by decide) ?_
    show Steps p.tables e below (T4.setTop (mkF m 50 #[.val (.int p1), .val (.int (0 : Int32)), .val (.ref w3), .unset] [])) _
    refine XS.iconst X4.here hx rfl (hb hby at_50) ?_
    show Steps p.tables e below (T4.setTop (mkF m 51 #[.val (.int p1), .val (.int (0 : Int32)), .val (.ref w3), .unset] [(.int (1 : Int32))])) _
    refine XS.goto X4.here hx rfl (pc0 := 51) (pc' := 55) rfl (hb hby at_51) (by decide) (by decide) ?_
    show Steps p.tables e below (T4.setTop (mkF m 55 #[.val (.int p1), .val (.int (0 : Int32)), .val (.ref w3), .unset] [(.int (1 : Int32))])) _
    refine XS.istoreN X4.here hx rfl (hb hby at_55) rfl (l' := #[.val (.int p1), .val (.int (0 : Int32)), .val (.ref w3), .val (.int (1 : Int32))]) rfl ?_
    show Steps p.tables e below (T4.setTop (mkF m 56 #[.val (.int p1), .val (.int (0 : Int32)), .val (.ref w3), .val (.int (1 : Int32))] [])) _
    refine XS.aloadN X4.here hx rfl (hb hby at_56) rfl rfl ?_
    show Steps p.tables e below (T4.setTop (mkF m 57 #[.val (.int p1), .val (.int (0 : Int32)), .val (.ref w3), .val (.int (1 : Int32))] [(.ref w3)])) _
    refine st5.trans ?_
    show Steps p.tables e below (T5.setTop (mkF m 60 #[.val (.int p1), .val (.int (0 : Int32)), .val (.ref w3), .val (.int (1 : Int32))] [(.int (0 : Int32))])) _
    refine XS.iloadN X5.here hx rfl (hb hby at_60) rfl ?_
    show Steps p.tables e below (T5.setTop (mkF m 61 #[.val (.int p1), .val (.int (0 : Int32)), .val (.ref w3), .val (.int (1 : Int32))] [(.int (0 : Int32)), (.int (0 : Int32))])) _
    refine XS.icmpNo X5.here hx rfl (hb hby at_61) rfl (teq (rfl : (0 : Int32) = (0 : Int32))).2 ?_
    show Steps p.tables e below (T5.setTop (mkF m 64 #[.val (.int p1), .val (.int (0 : Int32)), .val (.ref w3), .val (.int (1 : Int32))] [])) _
    refine XS.iloadN X5.here hx rfl (hb hby at_64) rfl ?_
    show Steps p.tables e below (T5.setTop (mkF m 65 #[.val (.int p1), .val (.int (0 : Int32)), .val (.ref w3), .val (.int (1 : Int32))] [(.int (1 : Int32))])) _
    refine XS.ifNo X5.here hx rfl (hb hby at_65) rfl ((if0 _ _).trans (feq hc65).1) ?_
    show Steps p.tables e below (T5.setTop (mkF m 68 #[.val (.int p1), .val (.int (0 : Int32)), .val (.ref w3), .val (.int (1 : Int32))] [])) _
    refine XS.iconst X5.here hx rfl (hb hby at_68) ?_
    show Steps p.tables e below (T5.setTop (mkF m 69 #[.val (.int p1), .val (.int (0 : Int32)), .val (.ref w3), .val (.int (1 : Int32))] [(.int (1 : Int32))])) _
    refine XS.goto X5.here hx rfl (pc0 := 69) (pc' := 73) rfl (hb hby at_69) (by decide) (by decide) ?_
    show Steps p.tables e below (T5.setTop (mkF m 73 #[.val (.int p1), .val (.int (0 : Int32)), .val (.ref w3), .val (.int (1 : Int32))] [(.int (1 : Int32))])) _
    exact retN X5 hx (t := .boolean) Bd.returns (by simp) (hb hby at_73) hr
  · show Q0_tttfff Z p1 w3 h0 n0 _ T5.heap _
    exact ⟨rfl, N5⟩
set_option maxRecDepth 65536 in
set_option maxHeartbeats 40000000 in
theorem comes_1 {Post : Tables → Env → Array Value → State → Outcome → State → Prop} (hpost : ∀ tb e args s v u, (limb_1_1.after args s (.returned v) u = true ∧ limb_1_2.after args s (.returned v) u = true ∧ True) → FrameEnd s (.returned v) u (Jvm.fieldLocs frame_1_writes args s ++ Jvm.arrayLocs frame_1_arrays args s ++ Jvm.staticLocs frame_1_statics s) 0 0 → Post tb e args s (.returned v) u) :
    ArmFor flags0 classFile x code maxLocals ret World_1 tables_1 room_1 Calls_1 rest_1 Pre_1 Post := by
  intro l hfl _ _ p e ha hc hk s m args below hf hA hF happ hP
  obtain ⟨hcalls, hrest, hpre⟩ := hP
  obtain ⟨-, -, -, hnamed, -, -, -, hat⟩ := (Spec.applies_iff hf).mp happ
  obtain ⟨hg, hn⟩ := and_e (Cond.before_iff.mp (show (Jvm.Cond.and given_1 narrow_1).before args s = true from hpre))
  obtain ⟨g6, g7⟩ := and_e hg
  obtain ⟨w0, rfl⟩ : ∃ w0 : Value, args = #[w0] := by
    have hs : args.size = 1 := by simpa [Cond.value, given_1] using g6
    obtain ⟨L⟩ := args
    match L, hs with
    | [w0], _ => exact ⟨w0, rfl⟩
  have hw := fun d (hd : d ∈ tables_1) => atoms_spec (ws := Jvm.Cond.code x code maxLocals ret :: tables_1) hat d (List.mem_cons_of_mem _ hd)
  have hfit : Fit s := fun {y c} hc i hi => by
    obtain ⟨ha, rfl⟩ := Array.getElem?_eq_some_iff.mp hc
    have q := List.all_eq_true.mp ((Array.all_eq_true_iff_forall_mem.mp hF) _ (Array.getElem_mem ha)) i (List.mem_range.mpr hi)
    simpa [Array.getElem?_eq_getElem hi] using q
  obtain ⟨i0, ei0⟩ := is_v g7
  obtain rfl : w0 = (.int i0) := Option.some.inj ei0
  obtain ⟨n0, hn⟩ := and_e hn
  obtain ⟨n1, hn⟩ := and_e hn
  obtain ⟨n2, n3⟩ := and_e hn
  obtain ⟨a_FALSE, e_FALSE⟩ := exa_v n0
  have E_FALSE := Exa.start e_FALSE n0
  have S_FALSE := Sta.start e_FALSE (Or.inr ⟨hw _ (List.mem_of_getElem? (i := 2) rfl), hw _ (List.mem_of_getElem? (i := 5) rfl)⟩)
  have F_FALSE := Fld.start ((fld_at e_FALSE).symm.trans (own_eqInt n1))
  obtain ⟨a_TRUE, e_TRUE⟩ := exa_v n2
  have E_TRUE := Exa.start e_TRUE n2
  have S_TRUE := Sta.start e_TRUE (Or.inr ⟨hw _ (List.mem_of_getElem? (i := 2) rfl), hw _ (List.mem_of_getElem? (i := 16) rfl)⟩)
  have F_TRUE := Fld.start ((fld_at e_TRUE).symm.trans (own_eqInt n3))
  by_cases k0 : (i0 &&& (1 : Int32)) = (0 : Int32)
  · obtain ⟨n, o, h1, h2, h3, _, L, rfl, ⟨rfl, N⟩, hq⟩ := rm0_tttfff l s _ hw tables_1 i0 a_FALSE s.heap s.heap.size (Nat.le_refl _) E_FALSE F_FALSE S_FALSE k0 rfl (by decide) p e ha hc hk s m _ below hf ((Spec.applies_iff_loose hf).mp happ).1 ⟨rfl, State.Warmed39.refl s, rfl⟩ trivial
    refine ⟨n, _, h1, h2, h3, hpost _ _ _ _ _ _ ⟨Cond.after_iff.mpr rfl, Cond.after_iff.mpr (eq_i res_at (Term.int_eval (1)) rfl), trivial⟩ ⟨hq.1, hq.2.1, (hq.2.2.sift fun y hy => Or.inr (N y hy)).mono (by decide) (by decide)⟩⟩
  · obtain ⟨n, o, h1, h2, h3, _, L, rfl, ⟨rfl, N⟩, hq⟩ := rm0_ftffff l s _ hw tables_1 i0 a_TRUE s.heap s.heap.size (Nat.le_refl _) E_TRUE F_TRUE S_TRUE k0 (by decide) rfl (by decide) p e ha hc hk s m _ below hf ((Spec.applies_iff_loose hf).mp happ).1 ⟨rfl, State.Warmed39.refl s, rfl⟩ trivial
    refine ⟨n, _, h1, h2, h3, hpost _ _ _ _ _ _ ⟨Cond.after_iff.mpr rfl, Cond.after_iff.mpr (eq_i res_at (Term.int_eval (1)) rfl), trivial⟩ ⟨hq.1, hq.2.1, (hq.2.2.sift fun y hy => Or.inr (N y hy)).mono (by decide) (by decide)⟩⟩
theorem main_1_1 : Claimed_1_1 := comes_1 fun _ _ _ _ _ _ h hF => ⟨h.1, hF⟩
theorem main_1_2 : Claimed_1_2 := comes_1 fun _ _ _ _ _ _ h hF => ⟨h.2.1, hF⟩
end Jvm.Pilot.@@N@@
namespace Jvm.Pilot.@@N@@
open Jvm Jvm.ClassFile Sem Op Lib Jvm.Free Jvm.Stand Jvm.Pilot.@@N@@.Jvm.D
/-! MADE BY PROGRAM (witnessworld.py) out of the Statement's table words and the real class files: 9 classes; the members and pool entries that the words name. The judged class is class 1, her method 1. -/
namespace start1
open Jvm.ClassFile
def u (s : String) : CpInfo := .utf8 (stringToUtf16 s)
/-- a pool by its gaps: so many unusable entries, then the entry; so many at the end -/
def gap : Nat → List CpInfo → List CpInfo
  | 0, r => r
  | n + 1, r => .unusable :: gap n r
def poolList (es : List (Nat × CpInfo)) (last : Nat) : List CpInfo := es.foldr (fun e r => gap e.1 (e.2 :: r)) (gap last [])
def pool (es : List (Nat × CpInfo)) (last : Nat) : Array CpInfo := ⟨poolList es last⟩
def fileOf (pool : Array CpInfo) (this : Nat) (attrs : Array Attribute := #[]) (ms : Array MethodInfo := #[]) (fl : Nat := 33) (sup : Nat := 0) (ifs : Array Nat := #[]) (fds : Array FieldInfo := #[]) : ClassFile where
  minorVersion := 0
  majorVersion := 65
  constantPool := pool
  accessFlags := fl
  thisClass := this
  superClass := sup
  interfaces := ifs
  fields := fds
  methods := ms
  attributes := attrs
def plain (name : String) (sup : Option ClassId) : Class where
  name := name
  kind := .ordinary
  loader := none
  accessFlags := 33
  super := sup
  interfaces := #[]
  cf := none
  fields := #[]
  methods := #[]
  instanceTypes := #[]
  staticTypes := #[]
  resolved := #[]
  callSites := []
  init := .initialized
  statics := none
  mirror := none

def pool0 : Array CpInfo := pool [(5, u "<init>"), (0, u "()V"), (1, .class_ 10), (1, u "java/lang/Object")] 113

def k0m0 : Method := { name := "<init>", desc := "()V", sig := { parameters := [], returnType := none }, accessFlags := 1, code := none }
/-- java/lang/Object -/
def k0 : Class := { plain "java/lang/Object" none with
  accessFlags := 33
  interfaces := #[]
  cf := some (fileOf pool0 8 #[] #[{ accessFlags := 1, nameIndex := 5, descriptorIndex := 6, attributes := #[] }] 33 0 #[] #[])
  fields := #[]
  methods := #[k0m0]
  instanceTypes := #[]
  staticTypes := #[]
  resolved := Array.replicate 124 none
  statics := none }

def pool1 : Array CpInfo := pool [(2, .class_ 4), (1, u "java/lang/Object"), (0, u "<init>"), (0, u "()V"), (0, .interfaceMethodref 8 9), (0, .class_ 10), (0, .nameAndType 11 12), (0, u "com/example/huron/huron/Value"), (0, u "of"), (0, u "(Z)Lcom/example/huron/huron/Value$Bool;"), (0, .fieldref 8 14), (0, .nameAndType 15 16), (0, u "TRUE"), (0, u "Lcom/example/huron/huron/Value$Bool;"), (0, .fieldref 8 18), (0, .nameAndType 19 16), (0, u "FALSE"), (0, .methodref 21 22), (0, .class_ 23), (0, .nameAndType 24 25), (0, u "com/example/huron/huron/Value$Bool"), (0, u "value"), (0, u "()Z"), (0, .class_ 27), (0, u "com/example/huron/huron/ValueOfPinLaw"), (2, u "law"), (0, u "(I)Z")] 5

def k1m0 : Method := { name := "<init>", desc := "()V", sig := { parameters := [], returnType := none }, accessFlags := 2, code := none }
def k1c1 : Code := { maxStack := 2, maxLocals := 4, code := code, exceptionTable := #[], attributes := #[] }
def k1m1 : Method := { name := "law", desc := "(I)Z", sig := { parameters := [.int], returnType := some .boolean }, accessFlags := 9, code := some k1c1 }
/-- com/example/huron/huron/ValueOfPinLaw -/
def k1 : Class := { plain "com/example/huron/huron/ValueOfPinLaw" (some 0) with
  accessFlags := 49
  interfaces := #[]
  cf := some (fileOf pool1 26 #[] #[{ accessFlags := 2, nameIndex := 5, descriptorIndex := 6, attributes := #[] }, { accessFlags := 9, nameIndex := 30, descriptorIndex := 31, attributes := #[] }] 49 2 #[] #[])
  fields := #[]
  methods := #[k1m0, k1m1]
  instanceTypes := #[]
  staticTypes := #[]
  resolved := Array.replicate 37 none
  statics := none }

def pool2 : Array CpInfo := pool [(1, .fieldref 2 3), (0, .class_ 4), (0, .nameAndType 5 6), (0, u "com/example/huron/huron/Value"), (0, u "TRUE"), (0, u "Lcom/example/huron/huron/Value$Bool;"), (0, .fieldref 2 8), (0, .nameAndType 9 6), (0, u "FALSE"), (10, .class_ 21), (0, u "com/example/huron/huron/Value$Int"), (10, .class_ 33), (0, u "com/example/huron/huron/Value$Bool"), (8, .class_ 43), (0, u "com/example/huron/huron/Value$Str"), (8, .class_ 53), (0, u "com/example/huron/huron/Value$Element"), (26, .class_ 81), (0, u "com/example/huron/huron/Value$Undef"), (6, u "UNDEF"), (0, u "Lcom/example/huron/huron/Value;"), (8, u "ORDER"), (0, u "Ljava/util/Comparator;"), (0, .class_ 101), (0, u "java/lang/Object"), (2, u "of"), (0, u "(Z)Lcom/example/huron/huron/Value$Bool;")] 37

def k2c0 : Code := { maxStack := 1, maxLocals := 1, code := prog_104_method_1_code, exceptionTable := #[], attributes := #[] }
def k2m0 : Method := { name := "of", desc := "(Z)Lcom/example/huron/huron/Value$Bool;", sig := { parameters := [.boolean], returnType := some (.object "com/example/huron/huron/Value$Bool") }, accessFlags := 9, code := some k2c0 }
/-- com/example/huron/huron/Value -/
def k2 : Class := { plain "com/example/huron/huron/Value" (some 0) with
  accessFlags := 1536
  interfaces := #[]
  cf := some (fileOf pool2 2 #[.nestMembers #[80, 52, 42, 32, 20]] #[{ accessFlags := 9, nameIndex := 104, descriptorIndex := 105, attributes := #[] }] 1536 100 #[] #[{ accessFlags := 25, nameIndex := 88, descriptorIndex := 89, attributes := #[] }, { accessFlags := 25, nameIndex := 5, descriptorIndex := 6, attributes := #[] }, { accessFlags := 25, nameIndex := 9, descriptorIndex := 6, attributes := #[] }, { accessFlags := 25, nameIndex := 98, descriptorIndex := 99, attributes := #[] }])
  fields := #[{ name := "UNDEF", type := (.object "com/example/huron/huron/Value"), accessFlags := 25, slot := 0, constantValue := 0 }, { name := "TRUE", type := (.object "com/example/huron/huron/Value$Bool"), accessFlags := 25, slot := 1, constantValue := 0 }, { name := "FALSE", type := (.object "com/example/huron/huron/Value$Bool"), accessFlags := 25, slot := 2, constantValue := 0 }, { name := "ORDER", type := (.object "java/util/Comparator"), accessFlags := 25, slot := 3, constantValue := 0 }]
  methods := #[k2m0]
  instanceTypes := #[]
  staticTypes := #[(.object "com/example/huron/huron/Value"), (.object "com/example/huron/huron/Value$Bool"), (.object "com/example/huron/huron/Value$Bool"), (.object "java/util/Comparator")]
  resolved := Array.replicate 143 none
  statics := some 0 }

def pool3 : Array CpInfo := pool [(2, .class_ 4), (1, u "java/lang/Object"), (0, u "<init>"), (0, u "()V"), (0, .class_ 8), (0, u "java/lang/Record")] 13

def k3m0 : Method := { name := "<init>", desc := "()V", sig := { parameters := [], returnType := none }, accessFlags := 4, code := none }
/-- java/lang/Record -/
def k3 : Class := { plain "java/lang/Record" (some 0) with
  accessFlags := 1057
  interfaces := #[]
  cf := some (fileOf pool3 7 #[] #[{ accessFlags := 4, nameIndex := 5, descriptorIndex := 6, attributes := #[] }] 1057 2 #[] #[])
  fields := #[]
  methods := #[k3m0]
  instanceTypes := #[]
  staticTypes := #[]
  resolved := Array.replicate 22 none
  statics := none }

def pool4 : Array CpInfo := pool [(2, .class_ 4), (1, u "java/lang/Record"), (2, .fieldref 8 9), (0, .class_ 10), (0, .nameAndType 11 12), (0, u "com/example/huron/huron/Value$Bool"), (0, u "value"), (0, u "Z"), (14, .class_ 28), (0, u "com/example/huron/huron/Value"), (7, u "()Z")] 21

def k4c0 : Code := { maxStack := 1, maxLocals := 1, code := prog_105_method_5_code, exceptionTable := #[], attributes := #[] }
def k4m0 : Method := { name := "value", desc := "()Z", sig := { parameters := [], returnType := some .boolean }, accessFlags := 1, code := some k4c0 }
/-- com/example/huron/huron/Value$Bool -/
def k4 : Class := { plain "com/example/huron/huron/Value$Bool" (some 3) with
  accessFlags := 49
  interfaces := #[2]
  cf := some (fileOf pool4 8 #[.nestHost 27] #[{ accessFlags := 1, nameIndex := 11, descriptorIndex := 36, attributes := #[] }] 49 2 #[27] #[{ accessFlags := 18, nameIndex := 11, descriptorIndex := 12, attributes := #[] }])
  fields := #[{ name := "value", type := .boolean, accessFlags := 18, slot := 0, constantValue := 0 }]
  methods := #[k4m0]
  instanceTypes := #[.boolean]
  staticTypes := #[]
  resolved := Array.replicate 58 none
  statics := none }

def pool5 : Array CpInfo := pool [(1, u "java/lang/Cloneable"), (0, .class_ 1), (0, u "java/lang/Object"), (0, .class_ 3)] 3

/-- java/lang/Cloneable -/
def k5 : Class := { plain "java/lang/Cloneable" (some 0) with
  accessFlags := 1537
  interfaces := #[]
  cf := some (fileOf pool5 2 #[] #[] 1537 4 #[] #[])
  fields := #[]
  methods := #[]
  instanceTypes := #[]
  staticTypes := #[]
  resolved := Array.replicate 8 none
  statics := none }

def pool6 : Array CpInfo := pool [(1, u "java/io/Serializable"), (0, .class_ 1), (0, u "java/lang/Object"), (0, .class_ 3)] 3

/-- java/io/Serializable -/
def k6 : Class := { plain "java/io/Serializable" (some 0) with
  accessFlags := 1537
  interfaces := #[]
  cf := some (fileOf pool6 2 #[] #[] 1537 4 #[] #[])
  fields := #[]
  methods := #[]
  instanceTypes := #[]
  staticTypes := #[]
  resolved := Array.replicate 8 none
  statics := none }

/-- the primitive byte -/
def k7 : Class := { plain "byte" none with kind := .primitive 'B', accessFlags := 0x411 }
/-- [B -/
def k8 : Class := { plain "[B" (some 0) with kind := .array 7 .byte, interfaces := #[5, 6], accessFlags := 1041 }

def heap : Heap := #[{ cls := 2, slots := #[.null, .ref 2, .ref 1, .null], vm := .statics 2 },
  { cls := 4, slots := #[.int 0], vm := .none },
  { cls := 4, slots := #[.int 1], vm := .none }]
def classes : Array Class := #[k0, k1, k2, k3, k4, k5, k6, k7, k8]
def interned : List (Array UInt16 × Addr) := []
def slotsUsed : Nat := 6
def theMethod : MethodId := ⟨1, 1⟩
def args0 : Array Value := #[.int 5]
def aboutOver (below : List Frame) : State where
  vm := { classes := classes, interned := interned.toArray }
  heap := heap
  slotsUsed := slotsUsed
  threads := #[{ frames := .invoking theMethod args0 :: below }]
def below0 : List Frame := [.native { method := ⟨0, 0⟩, args := #[] }]
def about1 : State := aboutOver below0
def p0 : Program := .bare "" "" ""
def e0 : Env := launch0.env 0 0 0
theorem w_frames : about1.frames = Frame.invoking theMethod args0 :: below0 := rfl
set_option maxRecDepth 65536 in
theorem w_args : argsFit about1.vm theMethod args0 = true := by decide +kernel
set_option maxRecDepth 65536 in
theorem w_heap : heapFits about1 = true := by decide +kernel
set_option maxRecDepth 65536 in
theorem w_runnable : about1.curStatus? = some .runnable := by decide +kernel
set_option maxRecDepth 65536 in
theorem w_alone : about1.alone = true := by decide +kernel
set_option maxRecDepth 65536 in
theorem w_named : about1.methodNamed? x = some theMethod := by decide +kernel
set_option maxRecDepth 65536 in
theorem w_hears : about1.hears theMethod below0 = true := by decide +kernel
set_option maxRecDepth 65536 in
theorem w_ripe : about1.ripe theMethod args0 below0 = true := by decide +kernel
theorem w_running : about1.status = .running := rfl
set_option maxRecDepth 65536 in
theorem w_room : about1.hasRoom e0.platform room_1 = true :=
  launch0.hasRoom_least _ room_1 (by decide +kernel) (by decide +kernel) (by decide +kernel) (by decide +kernel) (by decide +kernel) (by decide +kernel)
theorem allAtoms_all (ts : List Jvm.Cond) (a : Array Jvm.Value) (st : Jvm.State) : (allAtoms ts).before a st = ts.all (fun c => c.before a st) := by
  induction ts with
  | nil => rfl
  | cons c t ih =>
    show (Jvm.Cond.and c (allAtoms t)).before a st = _
    rw [Jvm.Cond.before_and, ih, List.all_cons]
def words1 : List Jvm.Cond := Jvm.Cond.code x code maxLocals ret :: tables_1
/-- a 'code' word, met by the world's own term for the bytes: nothing is compared byte by byte -/
theorem code_word {y : MethodName} {bytes : ByteArray} {mx : Nat} {rt : Option FieldType} {a : Array Value} {s : State} {m : MethodId} {meth : Method} {c : Code} (h1 : s.methodNamed? y = some m) (h2 : s.vm.method? m = some meth) (h3 : meth.code = some c) (h4 : c.code = bytes)
    (h5 : (c.maxLocals == mx && c.exceptionTable.isEmpty && decide (c.maxStack ≤ mostOperands) && decide (meth.sig.returnType = rt) && !meth.locks && decide (parseMethodDescriptor y.desc = some meth.sig)) = true) : (Jvm.Cond.code y bytes mx rt).before a s = true := by
  simp only [Bool.and_eq_true, beq_iff_eq, Bool.not_eq_true', decide_eq_true_eq] at h5
  obtain ⟨⟨⟨⟨⟨g1, g2⟩, g3⟩, g4⟩, g5⟩, g6⟩ := h5
  simp [Cond.before, Cond.holds, Cond.value, h1, h2, h3, h4, g1, g2, g3, g4, g5, g6]
def isCode : Jvm.Cond → Bool
  | .code _ _ _ _ => true
  | _ => false
theorem all_split {L : List Jvm.Cond} {P : Jvm.Cond → Bool} (h1 : L.all (fun c => isCode c || P c) = true) (h2 : ∀ c ∈ L.filter isCode, P c = true) : L.all P = true := by
  refine List.all_eq_true.mpr fun c hc => ?_
  have h := List.all_eq_true.mp h1 c hc
  rcases Bool.eq_false_or_eq_true (isCode c) with hi | hi
  · exact h2 c (List.mem_filter.mpr ⟨hc, hi⟩)
  · simpa [hi] using h
set_option maxRecDepth 65536 in
theorem w_c0 : (Jvm.Cond.code x code maxLocals ret).before args0 about1 = true := code_word (m := ⟨1, 1⟩) (meth := k1m1) (c := k1c1) (by decide +kernel) rfl rfl rfl (by decide +kernel)
set_option maxRecDepth 65536 in
theorem w_c1 : (Jvm.Cond.code ({ cls := "com/example/huron/huron/Value", name := "of", desc := "(Z)Lcom/example/huron/huron/Value$Bool;" } : Jvm.MethodName) prog_104_method_1_code (1 : Nat) (Option.some (Jvm.ClassFile.FieldType.object "com/example/huron/huron/Value$Bool"))).before args0 about1 = true := code_word (m := ⟨2, 0⟩) (meth := k2m0) (c := k2c0) (by decide +kernel) rfl rfl rfl (by decide +kernel)
set_option maxRecDepth 65536 in
theorem w_c2 : (Jvm.Cond.code ({ cls := "com/example/huron/huron/Value$Bool", name := "value", desc := "()Z" } : Jvm.MethodName) prog_105_method_5_code (1 : Nat) (Option.some Jvm.ClassFile.FieldType.boolean)).before args0 about1 = true := code_word (m := ⟨4, 0⟩) (meth := k4m0) (c := k4c0) (by decide +kernel) rfl rfl rfl (by decide +kernel)
def codes1 : List Jvm.Cond := [Jvm.Cond.code x code maxLocals ret, Jvm.Cond.code ({ cls := "com/example/huron/huron/Value", name := "of", desc := "(Z)Lcom/example/huron/huron/Value$Bool;" } : Jvm.MethodName) prog_104_method_1_code (1 : Nat) (Option.some (Jvm.ClassFile.FieldType.object "com/example/huron/huron/Value$Bool")), Jvm.Cond.code ({ cls := "com/example/huron/huron/Value$Bool", name := "value", desc := "()Z" } : Jvm.MethodName) prog_105_method_5_code (1 : Nat) (Option.some Jvm.ClassFile.FieldType.boolean)]
set_option maxRecDepth 65536 in
theorem codes_eq : words1.filter isCode = codes1 := rfl
theorem w_codes : ∀ c ∈ words1.filter isCode, c.before args0 about1 = true := by
  rw [codes_eq]
  intro c hc
  simp only [codes1, List.mem_cons, List.not_mem_nil, or_false] at hc
  rcases hc with rfl | rfl | rfl
  · exact w_c0
  · exact w_c1
  · exact w_c2
set_option maxRecDepth 65536 in
theorem w_t1 : words1.all (fun c => isCode c || c.before args0 about1) = true := by decide +kernel
theorem w_tables : (allAtoms (Jvm.Cond.code x code maxLocals ret :: tables_1)).before args0 about1 = true := by
  rw [allAtoms_all]
  show words1.all (fun c => c.before args0 about1) = true
  refine all_split ?_ w_codes
  rw [w_t1]
set_option maxRecDepth 65536 in
theorem w_case : (Jvm.Cond.and given_1 narrow_1).before args0 about1 = true := by decide +kernel
theorem w_applies : (headSpec (Jvm.Cond.code x code maxLocals ret :: tables_1) room_1).applies x e0.platform about1 = true :=
  (Spec.applies_iff w_frames).mpr ⟨w_running, w_runnable, w_alone, w_named, w_hears, w_ripe, w_room, w_tables⟩
theorem atStart : AtStart classFile x code maxLocals ret World_1 tables_1 room_1 Calls_1 rest_1 Pre_1 launch0 p0 e0 about1 theMethod args0 below0 :=
  ⟨lists_1, trivial, launch0.admits_env _ _ _, launch0.least_env, fairChoices_fair.cas, fairChoices_fair.clock, w_frames, w_args, w_heap, w_applies, trivial, trivial, w_case⟩
end start1
theorem witness_1 : WitnessClaimed_1 := ⟨start1.p0, start1.e0, start1.about1, start1.theMethod, start1.args0, start1.below0, start1.atStart⟩
end Jvm.Pilot.@@N@@
