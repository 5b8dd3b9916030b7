import JvmDerived
import JvmDerived.Pilot.@@N@@Statement
import JvmDerived.Pilot.@@N@@Code
set_option linter.unusedVariables false
set_option linter.unusedSimpArgs false
namespace Jvm.RoadKit
open Sem ClassFile Op Lib Jvm.Stand Jvm.Free Jvm.LawKit
section New
variable {p : Program} {l : Launch} {e : Env} {R : Room} {s : State} {m : MethodId} {args : Array Value} {below : List Frame} {meth : Method} {c : Code} {T : State} {locs : List Loc} {cells slots : Nat}
theorem retI (X : Stand p l e R s m args below meth c T locs cells slots) (hx : p.tables.exec = Jvm.exec) {pc : Nat} {Ls : Array Slot} {z : Int32} {rest : List Value} (hret : meth.sig.returnType = some .int) (hd : decode c.code pc = .ok (.ireturn, 1)) {fs : List Frame}
    (hl : ∀ (f : JFrame) (acts : List Action), f.method = m → f.locked = none → f.entered = [] → (doReturn e (T.setTop f) acts (some (.int z))).1 = T.setFrames fs) : Steps p.tables e below (T.setTop (mkF m pc Ls (.int z :: rest))) (T.setFrames fs) := by
  have hm' : T.vm.method? m = some meth := X.method'
  have hn : narrow .int (.int z) = .int z := rfl
  show Steps p.tables e below (T.setTop { method := m, pc := pc, locals := Ls, stack := _ :: rest, locked := none }) _
  jvm_step X.here [X.here.top, hx, hd, hm', hret, hn]
  first | (intro acts; rw [hl _ acts rfl rfl rfl]) | rw [hl _ _ rfl rfl rfl]
  exact Steps.refl _
end New
end Jvm.RoadKit
namespace Jvm.Pilot.@@N@@
open Jvm Jvm.ClassFile Sem Op Lib Jvm.Free Jvm.Stand Jvm.LawKit Jvm.RoadKit Bundle Jvm.Pilot.@@N@@.Jvm.D
theorem d2_0 : decode prog_6_method_1_code 0 = .ok (.getstatic 13, 3) := by decide +kernel
theorem d2_3 : decode prog_6_method_1_code 3 = .ok (.invokevirtual 17, 3) := by decide +kernel
theorem d2_6 : decode prog_6_method_1_code 6 = .ok (.checkcast 18, 3) := by decide +kernel
theorem d2_9 : decode prog_6_method_1_code 9 = .ok (.areturn, 1) := by decide +kernel
theorem pn_2 : plainName "com/example/tresord/tresord/keymodule/CheckKeyKind" = true := by first | (simp [plainName, overriddenIn]; done) | decide +kernel
theorem pd_2_2 : parseMethodDescriptor "()Ljava/lang/Object;" = some ⟨[], some (.object "java/lang/Object")⟩ := by decide +kernel
theorem ef_2 (m : MethodId)  : entryFrame m #[] 0 = mkF m 0 #[] [] := by first | (simp [entryFrame, mkF, argsToLocals, Value.category]; done) | rfl
def Q2 (Z : State) (cl : Cell) (h0 : Heap) (n0 : Nat) (v : Option Value) (h : Heap) (L : List Loc) : Prop := v = some (.ref h0.size) ∧ Fr n0 L ∧ Ext h0 h ∧ ∃ ck : Cell, Arr Z h h0.size ck (.object "com/example/tresord/tresord/keymodule/CheckKeyKind") ∧ ck.slots = cl.slots
set_option maxRecDepth 65536 in
set_option maxHeartbeats 40000000 in
theorem rm2 (l : Launch) (Z : State) (a0 : Array Value) (hw : ∀ d ∈ tables_1, d.before a0 Z = true) (ws : List Jvm.Cond) (w1 : Addr) (cl : Cell) (h0 : Heap) (n0 : Nat) (Z0 : n0 ≤ h0.size) (S__VALUES : Sta Z h0 "com/example/tresord/tresord/keymodule/CheckKeyKind" "$VALUES" "[Lcom/example/tresord/tresord/keymodule/CheckKeyKind;" (.ref w1)) (E_w1 : Exa Z h0 w1 "[Lcom/example/tresord/tresord/keymodule/CheckKeyKind;") (Ar : Arr Z h0 w1 cl (.object "com/example/tresord/tresord/keymodule/CheckKeyKind")) (FC : FitC Z cl) (hsz : cl.slots.size = 3) :
    MetFree l (⟨"com/example/tresord/tresord/keymodule/CheckKeyKind", "values", "()[Lcom/example/tresord/tresord/keymodule/CheckKeyKind;"⟩ : MethodName) (head1 (Jvm.Cond.code (⟨"com/example/tresord/tresord/keymodule/CheckKeyKind", "values", "()[Lcom/example/tresord/tresord/keymodule/CheckKeyKind;"⟩ : MethodName) prog_6_method_1_code 0 (some (.array (.object "com/example/tresord/tresord/keymodule/CheckKeyKind"))) :: ws) ({ frames := 1, cells := 1, slots := 3, locals := 14 } : Room)) (fun a U => a = #[] ∧ Z.Warmed39 U.vm ∧ U.heap = h0) (fun _ _ _ _ _ => True) (fun _ U o U' => ∃ v L, o = .returned v ∧ Q2 Z cl h0 n0 v U'.heap L ∧ FrameEnd U o U' L ({ frames := 1, cells := 1, slots := 3, locals := 14 } : Room).cells ({ frames := 1, cells := 1, slots := 3, locals := 14 } : Room).slots) := by
  refine MetFree.of_bodySF (plainFor_of_name pn_2) hisR ?_
  intro p e s m args below meth c s₁ Bd hml0 hP hK
  obtain ⟨rfl, hZ, hh⟩ := hP
  have hx := Bd.exec
  have hby := Bd.bytes
  have hml : c.maxLocals = 0 := hml0
  have hown : s.vm.findClass "com/example/tresord/tresord/keymodule/CheckKeyKind" = some m.cls := findClass_of_methodNamed Bd.named
  have hnm := (name_of_methodNamed Bd.named Bd.method).1
  have X0 : Stand p l e ({ frames := 1, cells := 1, slots := 3, locals := 14 } : Room) s m #[] below meth c s₁ [] 0 0 := Stand.of_body Bd
  have e0 : s₁.heap = h0 := by rw [← hh, Bd.state]; rfl
  have N0 := Fr.nil n0
  have pre0 : ∀ t, Steps p.tables e below (s₁.setTop (mkF m 0 #[] [])) t → Steps p.tables e below (s₁.setTop (entryFrame m #[] 0)) t := fun t k => castTop (ef_2 m ) k
  -- 3. LAWS
  obtain ⟨T2, X2, e2, st2⟩ := getS2 X0 hx hZ hown (host := "") (Or.inl (hw _ (List.mem_of_getElem? (i := 8) rfl))) Via.refl e0 S__VALUES (g := (mkF m 0 #[] [])) rfl (hb hby d2_0)
  obtain ⟨T3, h3, X3, e3, E3, A3, x3, st3⟩ := cloneA X2 hx hZ hown (hw _ (List.mem_of_getElem? (i := 10) rfl)) (hw _ (List.mem_of_getElem? (i := 11) rfl)) (hw _ (List.mem_of_getElem? (i := 15) rfl)) (hw _ (List.mem_of_getElem? (i := 13) rfl)) (hw _ (List.mem_of_getElem? (i := 14) rfl)) (hw _ (List.mem_of_getElem? (i := 16) rfl)) e2 Ar E_w1 FC (g := (mkF m 3 #[] [(.ref w1)])) rfl (by rw [hml]; rfl) rfl (hb hby d2_3) (by decide) (W := 0) (cap := 3) (by show 2 * 0 + _ ≤ _; exact Nat.le_of_eq rfl) (by decide) (Nat.le_of_eq hsz) (by decide) (by decide)
  obtain ⟨T4, X4, e4, st4⟩ := castY X3 hx hZ hown (hw _ (List.mem_of_getElem? (i := 21) rfl)) e3 (Ins.self x3) (g := (mkF m 6 #[] [(.ref h0.size)])) rfl rfl (hb hby d2_6)
  obtain ⟨fs, hr, hrun, hended, hW, hsame⟩ := X4.leave (v := some (.ref h0.size)) (fun h => by rw [Bd.returns] at h; cases h)
  refine ⟨_, _, pre0 _ ?_, hrun, hended, _, _, rfl, ?_, ⟨_, rfl⟩, hW, hsame.mono (by decide) (by decide)⟩
  -- 4. STEPS
  · show Steps p.tables e below (s₁.setTop (mkF m 0 #[] [])) _
    refine st2 _ ?_
    show Steps p.tables e below (T2.setTop (mkF m 3 #[] [(.ref w1)])) _
    refine st3 _ ?_
    show Steps p.tables e below (T3.setTop (mkF m 6 #[] [(.ref h0.size)])) _
    refine st4 _ ?_
    show Steps p.tables e below (T4.setTop (mkF m 9 #[] [(.ref h0.size)])) _
    jvm_step X4.here [X4.here.top, hx, (hb hby d2_9), X4.method', Bd.returns, Value.isRef, FieldType.isReference]
    first | (intro acts; rw [hr _ acts rfl rfl rfl]) | rw [hr _ _ rfl rfl rfl]
    exact Steps.refl _
  · show Q2 Z cl h0 n0 _ T4.heap _
    rw [e4]
    exact ⟨rfl, N0, E3, _, A3, rfl⟩
theorem d1_0 : decode prog_6_method_6_code 0 = .ok (.invokestatic 40, 3) := by decide +kernel
theorem d1_3 : decode prog_6_method_6_code 3 = .ok (.astore_n 1, 1) := by decide +kernel
theorem d1_4 : decode prog_6_method_6_code 4 = .ok (.aload_n 1, 1) := by decide +kernel
theorem d1_5 : decode prog_6_method_6_code 5 = .ok (.arraylength, 1) := by decide +kernel
theorem d1_6 : decode prog_6_method_6_code 6 = .ok (.istore_n 2, 1) := by decide +kernel
theorem d1_7 : decode prog_6_method_6_code 7 = .ok (.iconst 0, 1) := by decide +kernel
theorem d1_8 : decode prog_6_method_6_code 8 = .ok (.istore_n 3, 1) := by decide +kernel
theorem d1_9 : decode prog_6_method_6_code 9 = .ok (.iload_n 3, 1) := by decide +kernel
theorem d1_10 : decode prog_6_method_6_code 10 = .ok (.iload_n 2, 1) := by decide +kernel
theorem d1_11 : decode prog_6_method_6_code 11 = .ok (.if_icmp .ge 26, 3) := by decide +kernel
theorem d1_14 : decode prog_6_method_6_code 14 = .ok (.aload_n 1, 1) := by decide +kernel
theorem d1_15 : decode prog_6_method_6_code 15 = .ok (.iload_n 3, 1) := by decide +kernel
theorem d1_16 : decode prog_6_method_6_code 16 = .ok (.aaload, 1) := by decide +kernel
theorem d1_17 : decode prog_6_method_6_code 17 = .ok (.astore 4, 2) := by decide +kernel
theorem d1_19 : decode prog_6_method_6_code 19 = .ok (.aload 4, 2) := by decide +kernel
theorem d1_21 : decode prog_6_method_6_code 21 = .ok (.getfield 36, 3) := by decide +kernel
theorem d1_24 : decode prog_6_method_6_code 24 = .ok (.iload_n 0, 1) := by decide +kernel
theorem d1_25 : decode prog_6_method_6_code 25 = .ok (.if_icmp .ne 6, 3) := by decide +kernel
theorem d1_28 : decode prog_6_method_6_code 28 = .ok (.aload 4, 2) := by decide +kernel
theorem d1_30 : decode prog_6_method_6_code 30 = .ok (.areturn, 1) := by decide +kernel
theorem pn_1 : plainName "com/example/tresord/tresord/keymodule/CheckKeyKind" = true := by first | (simp [plainName, overriddenIn]; done) | decide +kernel
theorem pd_1_1 : parseMethodDescriptor "()[Lcom/example/tresord/tresord/keymodule/CheckKeyKind;" = some ⟨[], some (.array (.object "com/example/tresord/tresord/keymodule/CheckKeyKind"))⟩ := by decide +kernel
theorem ef_1 (m : MethodId) (x0 : Int32) : entryFrame m #[(.int x0)] 5 = mkF m 0 #[.val (.int x0), .unset, .unset, .unset, .unset] [] := by first | (simp [entryFrame, mkF, argsToLocals, Value.category]; done) | rfl
def Q1_1 (Z : State) (p1 : Int32) (w3 : Addr) (h0 : Heap) (n0 : Nat) (v : Option Value) (h : Heap) (L : List Loc) : Prop := v = some (.ref w3) ∧ Fr n0 L ∧ Ext h0 h
set_option maxRecDepth 65536 in
set_option maxHeartbeats 40000000 in
theorem rm1_1 (l : Launch) (Z : State) (a0 : Array Value) (hw : ∀ d ∈ tables_1, d.before a0 Z = true) (ws : List Jvm.Cond) (p1 : Int32) (wv : Addr) (cl : Cell) (w3 : Addr) (h0 : Heap) (n0 : Nat) (Z0 : n0 ≤ h0.size) (S_v : Sta Z h0 "com/example/tresord/tresord/keymodule/CheckKeyKind" "$VALUES" "[Lcom/example/tresord/tresord/keymodule/CheckKeyKind;" (.ref wv)) (E_v : Exa Z h0 wv "[Lcom/example/tresord/tresord/keymodule/CheckKeyKind;") (Ar_v : Arr Z h0 wv cl (.object "com/example/tresord/tresord/keymodule/CheckKeyKind")) (FC : FitC Z cl) (hsz : cl.slots.size = 3) (hin0 : ¬ ((0 : Int32) < 0 ∨ cl.slots.size ≤ ((0 : Int32)).toNatClampNeg)) (hat0 : cl.slots[((0 : Int32)).toNatClampNeg]? = some (.ref w3)) (F_code_w3 : Fld Z h0 w3 "com/example/tresord/tresord/keymodule/CheckKeyKind" "code" "B" (.int (1 : Int32))) (hc25_0 : (1 : Int32) = p1) :
    MetFree l (⟨"com/example/tresord/tresord/keymodule/CheckKeyKind", "fromCode", "(B)Lcom/example/tresord/tresord/keymodule/CheckKeyKind;"⟩ : MethodName) (head1 (Jvm.Cond.code (⟨"com/example/tresord/tresord/keymodule/CheckKeyKind", "fromCode", "(B)Lcom/example/tresord/tresord/keymodule/CheckKeyKind;"⟩ : MethodName) prog_6_method_6_code 5 (some (.object "com/example/tresord/tresord/keymodule/CheckKeyKind")) :: ws) ({ frames := 2, cells := 1, slots := 3, locals := 25 } : Room)) (fun a U => a = #[(.int p1)] ∧ Z.Warmed39 U.vm ∧ U.heap = h0) (fun _ _ _ _ _ => True) (fun _ U o U' => ∃ v L, o = .returned v ∧ Q1_1 Z p1 w3 h0 n0 v U'.heap L ∧ FrameEnd U o U' L ({ frames := 2, cells := 1, slots := 3, locals := 25 } : Room).cells ({ frames := 2, cells := 1, slots := 3, locals := 25 } : Room).slots) := by
  refine MetFree.of_bodySF (plainFor_of_name pn_1) hisR ?_
  intro p e s m args below meth c s₁ Bd hml0 hP hK
  obtain ⟨rfl, hZ, hh⟩ := hP
  have hx := Bd.exec
  have hby := Bd.bytes
  have hml : c.maxLocals = 5 := hml0
  have hown : s.vm.findClass "com/example/tresord/tresord/keymodule/CheckKeyKind" = some m.cls := findClass_of_methodNamed Bd.named
  have hnm := (name_of_methodNamed Bd.named Bd.method).1
  have X0 : Stand p l e ({ frames := 2, cells := 1, slots := 3, locals := 25 } : Room) s m #[(.int p1)] below meth c s₁ [] 0 0 := Stand.of_body Bd
  have e0 : s₁.heap = h0 := by rw [← hh, Bd.state]; rfl
  have N0 := Fr.nil n0
  have pre0 : ∀ t, Steps p.tables e below (s₁.setTop (mkF m 0 #[.val (.int p1), .unset, .unset, .unset, .unset] [])) t → Steps p.tables e below (s₁.setTop (entryFrame m #[(.int p1)] 5)) t := fun t k => castTop (ef_1 m p1) k
  -- 3. LAWS
  -- pc 0: com/example/tresord/tresord/keymodule/CheckKeyKind.values by its contract rm2
  obtain ⟨_, _, ⟨T2, L2, k2, n2⟩, -, X2, ⟨Lc2, hQ2, l2, y2, z2⟩, st2⟩ := Jvm.LawKit.callS X0 hx (y := (⟨"com/example/tresord/tresord/keymodule/CheckKeyKind", "values", "()[Lcom/example/tresord/tresord/keymodule/CheckKeyKind;"⟩ : MethodName)) hown (mvT hZ (hw _ (List.mem_of_getElem? (i := 5) rfl))) (mvT hZ (hw _ (List.mem_of_getElem? (i := 6) rfl))) (mvT hZ (hw _ (List.mem_of_getElem? (i := 3) rfl))) (mvT hZ (hw _ (List.mem_of_getElem? (i := 7) rfl))) (by decide) (backOf (W := 0) (rm2 l Z a0 hw []  wv cl h0 n0 Z0 S_v E_v Ar_v FC hsz) hZ (hw _ (List.mem_of_getElem? (i := 7) rfl)) (hw _ (List.mem_of_getElem? (i := 3) rfl)) (by decide) (by decide)) (g := (mkF m 0 #[.val (.int p1), .unset, .unset, .unset, .unset] [])) rfl (by rw [hml]; rfl) (argsL := []) (rest := []) (lenOf pd_1_1 rfl) rfl (by show 2 * 0 + _ ≤ _; exact Nat.le_of_eq rfl) (hb hby d1_0) (fun _ _ => ⟨rfl, e0, (by decide : 0 + 1 ≤ _), (by decide : 0 + 3 ≤ _)⟩)
  dsimp only [Pt.U, Pt.locs, Pt.cells, Pt.slots] at X2 l2 y2 z2 st2 hQ2
  subst l2 y2 z2
  obtain ⟨rfl, N2q, x2, ck, Ar, hck⟩ := hQ2
  have S3 : ck.slots.size = ((3 : Int32)).toNatClampNeg := by rw [hck, hsz]; rfl
  have N3 : ¬ ((3 : Int32) < 0) := by decide
  have hin_0 : ¬ ((0 : Int32) < 0 ∨ ck.slots.size ≤ ((0 : Int32)).toNatClampNeg) := by rw [hck]; exact hin0
  have hat_0 : ck.slots[((0 : Int32)).toNatClampNeg]? = some (.ref w3) := by rw [hck]; exact hat0      -- what it returned, that it wrote nothing old, and the rest of your Q2
  have N2 := Fr.app N0 N2q
  obtain ⟨T5, X5, e5, st5⟩ := getF X2 hx hZ hown (host := "") (Or.inl (hw _ (List.mem_of_getElem? (i := 23) rfl))) Via.refl rfl (F_code_w3.ext x2) (g := (mkF m 21 #[.val (.int p1), .val (.ref h0.size), .val (.int (3 : Int32)), .val (.int (0 : Int32)), .val (.ref w3)] [(.ref w3)])) rfl rfl (hb hby d1_21)
  obtain ⟨fs, hr, hrun, hended, hW, hsame⟩ := X5.leave (v := some (.ref w3)) (fun h => by rw [Bd.returns] at h; cases h)
  refine ⟨_, _, pre0 _ ?_, hrun, hended, _, _, rfl, ?_, ⟨_, rfl⟩, hW, hsame.mono (by decide) (by decide)⟩
  -- 4. STEPS
  · show Steps p.tables e below (s₁.setTop (mkF m 0 #[.val (.int p1), .unset, .unset, .unset, .unset] [])) _
    refine st2 _ ?_
    show Steps p.tables e below (T2.setTop (mkF m 3 #[.val (.int p1), .unset, .unset, .unset, .unset] [(.ref h0.size)])) _
    refine XS.astoreN X2.here hx rfl (hb hby d1_3) rfl rfl (l' := #[.val (.int p1), .val (.ref h0.size), .unset, .unset, .unset]) rfl ?_
    show Steps p.tables e below (T2.setTop (mkF m 4 #[.val (.int p1), .val (.ref h0.size), .unset, .unset, .unset] [])) _
    refine XS.aloadN X2.here hx rfl (hb hby d1_4) rfl rfl ?_
    show Steps p.tables e below (T2.setTop (mkF m 5 #[.val (.int p1), .val (.ref h0.size), .unset, .unset, .unset] [(.ref h0.size)])) _
    refine X2.arraylength hx Ar.1 (State.isArrayOf_alike hZ.alike Ar.2.1) (g := (mkF m 5 #[.val (.int p1), .val (.ref h0.size), .unset, .unset, .unset] [(.ref h0.size)])) rfl rfl (hb hby d1_5) _ ?_
    rw [len_of S3 N3]
    show Steps p.tables e below (T2.setTop (mkF m 6 #[.val (.int p1), .val (.ref h0.size), .unset, .unset, .unset] [(.int (3 : Int32))])) _
    refine XS.istoreN X2.here hx rfl (hb hby d1_6) rfl (l' := #[.val (.int p1), .val (.ref h0.size), .val (.int (3 : Int32)), .unset, .unset]) rfl ?_
    show Steps p.tables e below (T2.setTop (mkF m 7 #[.val (.int p1), .val (.ref h0.size), .val (.int (3 : Int32)), .unset, .unset] [])) _
    refine XS.iconst X2.here hx rfl (hb hby d1_7) ?_
    show Steps p.tables e below (T2.setTop (mkF m 8 #[.val (.int p1), .val (.ref h0.size), .val (.int (3 : Int32)), .unset, .unset] [(.int (0 : Int32))])) _
    refine XS.istoreN X2.here hx rfl (hb hby d1_8) rfl (l' := #[.val (.int p1), .val (.ref h0.size), .val (.int (3 : Int32)), .val (.int (0 : Int32)), .unset]) rfl ?_
    show Steps p.tables e below (T2.setTop (mkF m 9 #[.val (.int p1), .val (.ref h0.size), .val (.int (3 : Int32)), .val (.int (0 : Int32)), .unset] [])) _
    refine XS.iloadN X2.here hx rfl (hb hby d1_9) rfl ?_
    show Steps p.tables e below (T2.setTop (mkF m 10 #[.val (.int p1), .val (.ref h0.size), .val (.int (3 : Int32)), .val (.int (0 : Int32)), .unset] [(.int (0 : Int32))])) _
    refine XS.iloadN X2.here hx rfl (hb hby d1_10) rfl ?_
    show Steps p.tables e below (T2.setTop (mkF m 11 #[.val (.int p1), .val (.ref h0.size), .val (.int (3 : Int32)), .val (.int (0 : Int32)), .unset] [(.int (3 : Int32)), (.int (0 : Int32))])) _
    refine XS.icmpNo X2.here hx rfl (hb hby d1_11) rfl (tlt (by decide : (0 : Int32) < (3 : Int32))).2.1 ?_
    show Steps p.tables e below (T2.setTop (mkF m 14 #[.val (.int p1), .val (.ref h0.size), .val (.int (3 : Int32)), .val (.int (0 : Int32)), .unset] [])) _
    refine XS.aloadN X2.here hx rfl (hb hby d1_14) rfl rfl ?_
    show Steps p.tables e below (T2.setTop (mkF m 15 #[.val (.int p1), .val (.ref h0.size), .val (.int (3 : Int32)), .val (.int (0 : Int32)), .unset] [(.ref h0.size)])) _
    refine XS.iloadN X2.here hx rfl (hb hby d1_15) rfl ?_
    show Steps p.tables e below (T2.setTop (mkF m 16 #[.val (.int p1), .val (.ref h0.size), .val (.int (3 : Int32)), .val (.int (0 : Int32)), .unset] [(.int (0 : Int32)), (.ref h0.size)])) _
    refine X2.aaload hx (j := (0 : Int32)) (v := (.ref w3)) Ar.1 (State.isArrayOf_alike hZ.alike Ar.2.1) rfl Ar.2.2 hin_0 hat_0 (g := (mkF m 16 #[.val (.int p1), .val (.ref h0.size), .val (.int (3 : Int32)), .val (.int (0 : Int32)), .unset] [(.int (0 : Int32)), (.ref h0.size)])) rfl rfl (hb hby d1_16) _ ?_
    show Steps p.tables e below (T2.setTop (mkF m 17 #[.val (.int p1), .val (.ref h0.size), .val (.int (3 : Int32)), .val (.int (0 : Int32)), .unset] [(.ref w3)])) _
    refine XS.astore X2.here hx rfl (hb hby d1_17) rfl rfl (l' := #[.val (.int p1), .val (.ref h0.size), .val (.int (3 : Int32)), .val (.int (0 : Int32)), .val (.ref w3)]) rfl ?_
    show Steps p.tables e below (T2.setTop (mkF m 19 #[.val (.int p1), .val (.ref h0.size), .val (.int (3 : Int32)), .val (.int (0 : Int32)), .val (.ref w3)] [])) _
    refine XS.aload X2.here hx rfl (hb hby d1_19) rfl rfl ?_
    show Steps p.tables e below (T2.setTop (mkF m 21 #[.val (.int p1), .val (.ref h0.size), .val (.int (3 : Int32)), .val (.int (0 : Int32)), .val (.ref w3)] [(.ref w3)])) _
    refine st5 _ ?_
    show Steps p.tables e below (T5.setTop (mkF m 24 #[.val (.int p1), .val (.ref h0.size), .val (.int (3 : Int32)), .val (.int (0 : Int32)), .val (.ref w3)] [(.int (1 : Int32))])) _
    refine XS.iloadN X5.here hx rfl (hb hby d1_24) rfl ?_
    show Steps p.tables e below (T5.setTop (mkF m 25 #[.val (.int p1), .val (.ref h0.size), .val (.int (3 : Int32)), .val (.int (0 : Int32)), .val (.ref w3)] [(.int p1), (.int (1 : Int32))])) _
    refine XS.icmpNo X5.here hx rfl (hb hby d1_25) rfl (teq hc25_0).2 ?_
    show Steps p.tables e below (T5.setTop (mkF m 28 #[.val (.int p1), .val (.ref h0.size), .val (.int (3 : Int32)), .val (.int (0 : Int32)), .val (.ref w3)] [])) _
    refine XS.aload X5.here hx rfl (hb hby d1_28) rfl rfl ?_
    show Steps p.tables e below (T5.setTop (mkF m 30 #[.val (.int p1), .val (.ref h0.size), .val (.int (3 : Int32)), .val (.int (0 : Int32)), .val (.ref w3)] [(.ref w3)])) _
    jvm_step X5.here [X5.here.top, hx, (hb hby d1_30), X5.method', Bd.returns, Value.isRef, FieldType.isReference]
    first | (intro acts; rw [hr _ acts rfl rfl rfl]) | rw [hr _ _ rfl rfl rfl]
    exact Steps.refl _
  · show Q1_1 Z p1 w3 h0 n0 _ T5.heap _
    rw [e5]
    exact ⟨rfl, N2, x2⟩
theorem d1_31 : decode prog_6_method_6_code 31 = .ok (.iinc 3 1, 3) := by decide +kernel
theorem d1_34 : decode prog_6_method_6_code 34 = .ok (.goto (-25), 3) := by decide +kernel
def Q1_2 (Z : State) (p1 : Int32) (w3 : Addr) (w6 : Addr) (h0 : Heap) (n0 : Nat) (v : Option Value) (h : Heap) (L : List Loc) : Prop := v = some (.ref w6) ∧ Fr n0 L ∧ Ext h0 h
set_option maxRecDepth 65536 in
set_option maxHeartbeats 40000000 in
theorem rm1_2 (l : Launch) (Z : State) (a0 : Array Value) (hw : ∀ d ∈ tables_1, d.before a0 Z = true) (ws : List Jvm.Cond) (p1 : Int32) (wv : Addr) (cl : Cell) (w3 : Addr) (w6 : Addr) (h0 : Heap) (n0 : Nat) (Z0 : n0 ≤ h0.size) (S_v : Sta Z h0 "com/example/tresord/tresord/keymodule/CheckKeyKind" "$VALUES" "[Lcom/example/tresord/tresord/keymodule/CheckKeyKind;" (.ref wv)) (E_v : Exa Z h0 wv "[Lcom/example/tresord/tresord/keymodule/CheckKeyKind;") (Ar_v : Arr Z h0 wv cl (.object "com/example/tresord/tresord/keymodule/CheckKeyKind")) (FC : FitC Z cl) (hsz : cl.slots.size = 3) (hin0 : ¬ ((0 : Int32) < 0 ∨ cl.slots.size ≤ ((0 : Int32)).toNatClampNeg)) (hat0 : cl.slots[((0 : Int32)).toNatClampNeg]? = some (.ref w3)) (hin1 : ¬ ((1 : Int32) < 0 ∨ cl.slots.size ≤ ((1 : Int32)).toNatClampNeg)) (hat1 : cl.slots[((1 : Int32)).toNatClampNeg]? = some (.ref w6)) (F_code_w3 : Fld Z h0 w3 "com/example/tresord/tresord/keymodule/CheckKeyKind" "code" "B" (.int (1 : Int32))) (F_code_w6 : Fld Z h0 w6 "com/example/tresord/tresord/keymodule/CheckKeyKind" "code" "B" (.int (2 : Int32))) (hc25_0 : ¬ ((1 : Int32) = p1)) (hc25_1 : (2 : Int32) = p1) :
    MetFree l (⟨"com/example/tresord/tresord/keymodule/CheckKeyKind", "fromCode", "(B)Lcom/example/tresord/tresord/keymodule/CheckKeyKind;"⟩ : MethodName) (head1 (Jvm.Cond.code (⟨"com/example/tresord/tresord/keymodule/CheckKeyKind", "fromCode", "(B)Lcom/example/tresord/tresord/keymodule/CheckKeyKind;"⟩ : MethodName) prog_6_method_6_code 5 (some (.object "com/example/tresord/tresord/keymodule/CheckKeyKind")) :: ws) ({ frames := 2, cells := 1, slots := 3, locals := 25 } : Room)) (fun a U => a = #[(.int p1)] ∧ Z.Warmed39 U.vm ∧ U.heap = h0) (fun _ _ _ _ _ => True) (fun _ U o U' => ∃ v L, o = .returned v ∧ Q1_2 Z p1 w3 w6 h0 n0 v U'.heap L ∧ FrameEnd U o U' L ({ frames := 2, cells := 1, slots := 3, locals := 25 } : Room).cells ({ frames := 2, cells := 1, slots := 3, locals := 25 } : Room).slots) := by
  refine MetFree.of_bodySF (plainFor_of_name pn_1) hisR ?_
  intro p e s m args below meth c s₁ Bd hml0 hP hK
  obtain ⟨rfl, hZ, hh⟩ := hP
  have hx := Bd.exec
  have hby := Bd.bytes
  have hml : c.maxLocals = 5 := hml0
  have hown : s.vm.findClass "com/example/tresord/tresord/keymodule/CheckKeyKind" = some m.cls := findClass_of_methodNamed Bd.named
  have hnm := (name_of_methodNamed Bd.named Bd.method).1
  have X0 : Stand p l e ({ frames := 2, cells := 1, slots := 3, locals := 25 } : Room) s m #[(.int p1)] below meth c s₁ [] 0 0 := Stand.of_body Bd
  have e0 : s₁.heap = h0 := by rw [← hh, Bd.state]; rfl
  have N0 := Fr.nil n0
  have pre0 : ∀ t, Steps p.tables e below (s₁.setTop (mkF m 0 #[.val (.int p1), .unset, .unset, .unset, .unset] [])) t → Steps p.tables e below (s₁.setTop (entryFrame m #[(.int p1)] 5)) t := fun t k => castTop (ef_1 m p1) k
  -- 3. LAWS
  -- pc 0: com/example/tresord/tresord/keymodule/CheckKeyKind.values by its contract rm2
  obtain ⟨_, _, ⟨T2, L2, k2, n2⟩, -, X2, ⟨Lc2, hQ2, l2, y2, z2⟩, st2⟩ := Jvm.LawKit.callS X0 hx (y := (⟨"com/example/tresord/tresord/keymodule/CheckKeyKind", "values", "()[Lcom/example/tresord/tresord/keymodule/CheckKeyKind;"⟩ : MethodName)) hown (mvT hZ (hw _ (List.mem_of_getElem? (i := 5) rfl))) (mvT hZ (hw _ (List.mem_of_getElem? (i := 6) rfl))) (mvT hZ (hw _ (List.mem_of_getElem? (i := 3) rfl))) (mvT hZ (hw _ (List.mem_of_getElem? (i := 7) rfl))) (by decide) (backOf (W := 0) (rm2 l Z a0 hw []  wv cl h0 n0 Z0 S_v E_v Ar_v FC hsz) hZ (hw _ (List.mem_of_getElem? (i := 7) rfl)) (hw _ (List.mem_of_getElem? (i := 3) rfl)) (by decide) (by decide)) (g := (mkF m 0 #[.val (.int p1), .unset, .unset, .unset, .unset] [])) rfl (by rw [hml]; rfl) (argsL := []) (rest := []) (lenOf pd_1_1 rfl) rfl (by show 2 * 0 + _ ≤ _; exact Nat.le_of_eq rfl) (hb hby d1_0) (fun _ _ => ⟨rfl, e0, (by decide : 0 + 1 ≤ _), (by decide : 0 + 3 ≤ _)⟩)
  dsimp only [Pt.U, Pt.locs, Pt.cells, Pt.slots] at X2 l2 y2 z2 st2 hQ2
  subst l2 y2 z2
  obtain ⟨rfl, N2q, x2, ck, Ar, hck⟩ := hQ2
  have S3 : ck.slots.size = ((3 : Int32)).toNatClampNeg := by rw [hck, hsz]; rfl
  have N3 : ¬ ((3 : Int32) < 0) := by decide
  have hin_0 : ¬ ((0 : Int32) < 0 ∨ ck.slots.size ≤ ((0 : Int32)).toNatClampNeg) := by rw [hck]; exact hin0
  have hat_0 : ck.slots[((0 : Int32)).toNatClampNeg]? = some (.ref w3) := by rw [hck]; exact hat0
  have hin_1 : ¬ ((1 : Int32) < 0 ∨ ck.slots.size ≤ ((1 : Int32)).toNatClampNeg) := by rw [hck]; exact hin1
  have hat_1 : ck.slots[((1 : Int32)).toNatClampNeg]? = some (.ref w6) := by rw [hck]; exact hat1      -- what it returned, that it wrote nothing old, and the rest of your Q2
  have N2 := Fr.app N0 N2q
  obtain ⟨T5, X5, e5, st5⟩ := getF X2 hx hZ hown (host := "") (Or.inl (hw _ (List.mem_of_getElem? (i := 23) rfl))) Via.refl rfl (F_code_w3.ext x2) (g := (mkF m 21 #[.val (.int p1), .val (.ref h0.size), .val (.int (3 : Int32)), .val (.int (0 : Int32)), .val (.ref w3)] [(.ref w3)])) rfl rfl (hb hby d1_21)
  obtain ⟨T8, X8, e8, st8⟩ := getF X5 hx hZ hown (host := "") (Or.inl (hw _ (List.mem_of_getElem? (i := 23) rfl))) Via.refl e5 (F_code_w6.ext x2) (g := (mkF m 21 #[.val (.int p1), .val (.ref h0.size), .val (.int (3 : Int32)), .val (.int (1 : Int32)), .val (.ref w6)] [(.ref w6)])) rfl rfl (hb hby d1_21)
  obtain ⟨fs, hr, hrun, hended, hW, hsame⟩ := X8.leave (v := some (.ref w6)) (fun h => by rw [Bd.returns] at h; cases h)
  refine ⟨_, _, pre0 _ ?_, hrun, hended, _, _, rfl, ?_, ⟨_, rfl⟩, hW, hsame.mono (by decide) (by decide)⟩
  -- 4. STEPS
  · show Steps p.tables e below (s₁.setTop (mkF m 0 #[.val (.int p1), .unset, .unset, .unset, .unset] [])) _
    refine st2 _ ?_
    show Steps p.tables e below (T2.setTop (mkF m 3 #[.val (.int p1), .unset, .unset, .unset, .unset] [(.ref h0.size)])) _
    refine XS.astoreN X2.here hx rfl (hb hby d1_3) rfl rfl (l' := #[.val (.int p1), .val (.ref h0.size), .unset, .unset, .unset]) rfl ?_
    show Steps p.tables e below (T2.setTop (mkF m 4 #[.val (.int p1), .val (.ref h0.size), .unset, .unset, .unset] [])) _
    refine XS.aloadN X2.here hx rfl (hb hby d1_4) rfl rfl ?_
    show Steps p.tables e below (T2.setTop (mkF m 5 #[.val (.int p1), .val (.ref h0.size), .unset, .unset, .unset] [(.ref h0.size)])) _
    refine X2.arraylength hx Ar.1 (State.isArrayOf_alike hZ.alike Ar.2.1) (g := (mkF m 5 #[.val (.int p1), .val (.ref h0.size), .unset, .unset, .unset] [(.ref h0.size)])) rfl rfl (hb hby d1_5) _ ?_
    rw [len_of S3 N3]
    show Steps p.tables e below (T2.setTop (mkF m 6 #[.val (.int p1), .val (.ref h0.size), .unset, .unset, .unset] [(.int (3 : Int32))])) _
    refine XS.istoreN X2.here hx rfl (hb hby d1_6) rfl (l' := #[.val (.int p1), .val (.ref h0.size), .val (.int (3 : Int32)), .unset, .unset]) rfl ?_
    show Steps p.tables e below (T2.setTop (mkF m 7 #[.val (.int p1), .val (.ref h0.size), .val (.int (3 : Int32)), .unset, .unset] [])) _
    refine XS.iconst X2.here hx rfl (hb hby d1_7) ?_
    show Steps p.tables e below (T2.setTop (mkF m 8 #[.val (.int p1), .val (.ref h0.size), .val (.int (3 : Int32)), .unset, .unset] [(.int (0 : Int32))])) _
    refine XS.istoreN X2.here hx rfl (hb hby d1_8) rfl (l' := #[.val (.int p1), .val (.ref h0.size), .val (.int (3 : Int32)), .val (.int (0 : Int32)), .unset]) rfl ?_
    show Steps p.tables e below (T2.setTop (mkF m 9 #[.val (.int p1), .val (.ref h0.size), .val (.int (3 : Int32)), .val (.int (0 : Int32)), .unset] [])) _
    refine XS.iloadN X2.here hx rfl (hb hby d1_9) rfl ?_
    show Steps p.tables e below (T2.setTop (mkF m 10 #[.val (.int p1), .val (.ref h0.size), .val (.int (3 : Int32)), .val (.int (0 : Int32)), .unset] [(.int (0 : Int32))])) _
    refine XS.iloadN X2.here hx rfl (hb hby d1_10) rfl ?_
    show Steps p.tables e below (T2.setTop (mkF m 11 #[.val (.int p1), .val (.ref h0.size), .val (.int (3 : Int32)), .val (.int (0 : Int32)), .unset] [(.int (3 : Int32)), (.int (0 : Int32))])) _
    refine XS.icmpNo X2.here hx rfl (hb hby d1_11) rfl (tlt (by decide : (0 : Int32) < (3 : Int32))).2.1 ?_
    show Steps p.tables e below (T2.setTop (mkF m 14 #[.val (.int p1), .val (.ref h0.size), .val (.int (3 : Int32)), .val (.int (0 : Int32)), .unset] [])) _
    refine XS.aloadN X2.here hx rfl (hb hby d1_14) rfl rfl ?_
    show Steps p.tables e below (T2.setTop (mkF m 15 #[.val (.int p1), .val (.ref h0.size), .val (.int (3 : Int32)), .val (.int (0 : Int32)), .unset] [(.ref h0.size)])) _
    refine XS.iloadN X2.here hx rfl (hb hby d1_15) rfl ?_
    show Steps p.tables e below (T2.setTop (mkF m 16 #[.val (.int p1), .val (.ref h0.size), .val (.int (3 : Int32)), .val (.int (0 : Int32)), .unset] [(.int (0 : Int32)), (.ref h0.size)])) _
    refine X2.aaload hx (j := (0 : Int32)) (v := (.ref w3)) Ar.1 (State.isArrayOf_alike hZ.alike Ar.2.1) rfl Ar.2.2 hin_0 hat_0 (g := (mkF m 16 #[.val (.int p1), .val (.ref h0.size), .val (.int (3 : Int32)), .val (.int (0 : Int32)), .unset] [(.int (0 : Int32)), (.ref h0.size)])) rfl rfl (hb hby d1_16) _ ?_
    show Steps p.tables e below (T2.setTop (mkF m 17 #[.val (.int p1), .val (.ref h0.size), .val (.int (3 : Int32)), .val (.int (0 : Int32)), .unset] [(.ref w3)])) _
    refine XS.astore X2.here hx rfl (hb hby d1_17) rfl rfl (l' := #[.val (.int p1), .val (.ref h0.size), .val (.int (3 : Int32)), .val (.int (0 : Int32)), .val (.ref w3)]) rfl ?_
    show Steps p.tables e below (T2.setTop (mkF m 19 #[.val (.int p1), .val (.ref h0.size), .val (.int (3 : Int32)), .val (.int (0 : Int32)), .val (.ref w3)] [])) _
    refine XS.aload X2.here hx rfl (hb hby d1_19) rfl rfl ?_
    show Steps p.tables e below (T2.setTop (mkF m 21 #[.val (.int p1), .val (.ref h0.size), .val (.int (3 : Int32)), .val (.int (0 : Int32)), .val (.ref w3)] [(.ref w3)])) _
    refine st5 _ ?_
    show Steps p.tables e below (T5.setTop (mkF m 24 #[.val (.int p1), .val (.ref h0.size), .val (.int (3 : Int32)), .val (.int (0 : Int32)), .val (.ref w3)] [(.int (1 : Int32))])) _
    refine XS.iloadN X5.here hx rfl (hb hby d1_24) rfl ?_
    show Steps p.tables e below (T5.setTop (mkF m 25 #[.val (.int p1), .val (.ref h0.size), .val (.int (3 : Int32)), .val (.int (0 : Int32)), .val (.ref w3)] [(.int p1), (.int (1 : Int32))])) _
    refine XS.icmpYes X5.here hx rfl (pc0 := 25) (pc' := 31) rfl (hb hby d1_25) rfl (feq hc25_0).2 (by decide) (by decide) ?_
    show Steps p.tables e below (T5.setTop (mkF m 31 #[.val (.int p1), .val (.ref h0.size), .val (.int (3 : Int32)), .val (.int (0 : Int32)), .val (.ref w3)] [])) _
    refine XS.iinc X5.here hx rfl (hb hby d1_31) rfl (l' := #[.val (.int p1), .val (.ref h0.size), .val (.int (3 : Int32)), .val (.int (1 : Int32)), .val (.ref w3)]) rfl ?_
    show Steps p.tables e below (T5.setTop (mkF m 34 #[.val (.int p1), .val (.ref h0.size), .val (.int (3 : Int32)), .val (.int (1 : Int32)), .val (.ref w3)] [])) _
    refine XS.goto X5.here hx rfl (pc0 := 34) (pc' := 9) rfl (hb hby d1_34) (by decide) (by decide) ?_
    show Steps p.tables e below (T5.setTop (mkF m 9 #[.val (.int p1), .val (.ref h0.size), .val (.int (3 : Int32)), .val (.int (1 : Int32)), .val (.ref w3)] [])) _
    refine XS.iloadN X5.here hx rfl (hb hby d1_9) rfl ?_
    show Steps p.tables e below (T5.setTop (mkF m 10 #[.val (.int p1), .val (.ref h0.size), .val (.int (3 : Int32)), .val (.int (1 : Int32)), .val (.ref w3)] [(.int (1 : Int32))])) _
    refine XS.iloadN X5.here hx rfl (hb hby d1_10) rfl ?_
    show Steps p.tables e below (T5.setTop (mkF m 11 #[.val (.int p1), .val (.ref h0.size), .val (.int (3 : Int32)), .val (.int (1 : Int32)), .val (.ref w3)] [(.int (3 : Int32)), (.int (1 : Int32))])) _
    refine XS.icmpNo X5.here hx rfl (hb hby d1_11) rfl (tlt (by decide : (1 : Int32) < (3 : Int32))).2.1 ?_
    show Steps p.tables e below (T5.setTop (mkF m 14 #[.val (.int p1), .val (.ref h0.size), .val (.int (3 : Int32)), .val (.int (1 : Int32)), .val (.ref w3)] [])) _
    refine XS.aloadN X5.here hx rfl (hb hby d1_14) rfl rfl ?_
    show Steps p.tables e below (T5.setTop (mkF m 15 #[.val (.int p1), .val (.ref h0.size), .val (.int (3 : Int32)), .val (.int (1 : Int32)), .val (.ref w3)] [(.ref h0.size)])) _
    refine XS.iloadN X5.here hx rfl (hb hby d1_15) rfl ?_
    show Steps p.tables e below (T5.setTop (mkF m 16 #[.val (.int p1), .val (.ref h0.size), .val (.int (3 : Int32)), .val (.int (1 : Int32)), .val (.ref w3)] [(.int (1 : Int32)), (.ref h0.size)])) _
    refine X5.aaload hx (j := (1 : Int32)) (v := (.ref w6)) (by rw [e5]; exact Ar.1) (State.isArrayOf_alike hZ.alike Ar.2.1) rfl Ar.2.2 hin_1 hat_1 (g := (mkF m 16 #[.val (.int p1), .val (.ref h0.size), .val (.int (3 : Int32)), .val (.int (1 : Int32)), .val (.ref w3)] [(.int (1 : Int32)), (.ref h0.size)])) rfl rfl (hb hby d1_16) _ ?_
    show Steps p.tables e below (T5.setTop (mkF m 17 #[.val (.int p1), .val (.ref h0.size), .val (.int (3 : Int32)), .val (.int (1 : Int32)), .val (.ref w3)] [(.ref w6)])) _
    refine XS.astore X5.here hx rfl (hb hby d1_17) rfl rfl (l' := #[.val (.int p1), .val (.ref h0.size), .val (.int (3 : Int32)), .val (.int (1 : Int32)), .val (.ref w6)]) rfl ?_
    show Steps p.tables e below (T5.setTop (mkF m 19 #[.val (.int p1), .val (.ref h0.size), .val (.int (3 : Int32)), .val (.int (1 : Int32)), .val (.ref w6)] [])) _
    refine XS.aload X5.here hx rfl (hb hby d1_19) rfl rfl ?_
    show Steps p.tables e below (T5.setTop (mkF m 21 #[.val (.int p1), .val (.ref h0.size), .val (.int (3 : Int32)), .val (.int (1 : Int32)), .val (.ref w6)] [(.ref w6)])) _
    refine st8 _ ?_
    show Steps p.tables e below (T8.setTop (mkF m 24 #[.val (.int p1), .val (.ref h0.size), .val (.int (3 : Int32)), .val (.int (1 : Int32)), .val (.ref w6)] [(.int (2 : Int32))])) _
    refine XS.iloadN X8.here hx rfl (hb hby d1_24) rfl ?_
    show Steps p.tables e below (T8.setTop (mkF m 25 #[.val (.int p1), .val (.ref h0.size), .val (.int (3 : Int32)), .val (.int (1 : Int32)), .val (.ref w6)] [(.int p1), (.int (2 : Int32))])) _
    refine XS.icmpNo X8.here hx rfl (hb hby d1_25) rfl (teq hc25_1).2 ?_
    show Steps p.tables e below (T8.setTop (mkF m 28 #[.val (.int p1), .val (.ref h0.size), .val (.int (3 : Int32)), .val (.int (1 : Int32)), .val (.ref w6)] [])) _
    refine XS.aload X8.here hx rfl (hb hby d1_28) rfl rfl ?_
    show Steps p.tables e below (T8.setTop (mkF m 30 #[.val (.int p1), .val (.ref h0.size), .val (.int (3 : Int32)), .val (.int (1 : Int32)), .val (.ref w6)] [(.ref w6)])) _
    jvm_step X8.here [X8.here.top, hx, (hb hby d1_30), X8.method', Bd.returns, Value.isRef, FieldType.isReference]
    first | (intro acts; rw [hr _ acts rfl rfl rfl]) | rw [hr _ _ rfl rfl rfl]
    exact Steps.refl _
  · show Q1_2 Z p1 w3 w6 h0 n0 _ T8.heap _
    rw [e8]
    exact ⟨rfl, N2, x2⟩
def Q1_3 (Z : State) (p1 : Int32) (w3 : Addr) (w6 : Addr) (w9 : Addr) (h0 : Heap) (n0 : Nat) (v : Option Value) (h : Heap) (L : List Loc) : Prop := v = some (.ref w9) ∧ Fr n0 L ∧ Ext h0 h
set_option maxRecDepth 65536 in
set_option maxHeartbeats 40000000 in
theorem rm1_3 (l : Launch) (Z : State) (a0 : Array Value) (hw : ∀ d ∈ tables_1, d.before a0 Z = true) (ws : List Jvm.Cond) (p1 : Int32) (wv : Addr) (cl : Cell) (w3 : Addr) (w6 : Addr) (w9 : Addr) (h0 : Heap) (n0 : Nat) (Z0 : n0 ≤ h0.size) (S_v : Sta Z h0 "com/example/tresord/tresord/keymodule/CheckKeyKind" "$VALUES" "[Lcom/example/tresord/tresord/keymodule/CheckKeyKind;" (.ref wv)) (E_v : Exa Z h0 wv "[Lcom/example/tresord/tresord/keymodule/CheckKeyKind;") (Ar_v : Arr Z h0 wv cl (.object "com/example/tresord/tresord/keymodule/CheckKeyKind")) (FC : FitC Z cl) (hsz : cl.slots.size = 3) (hin0 : ¬ ((0 : Int32) < 0 ∨ cl.slots.size ≤ ((0 : Int32)).toNatClampNeg)) (hat0 : cl.slots[((0 : Int32)).toNatClampNeg]? = some (.ref w3)) (hin1 : ¬ ((1 : Int32) < 0 ∨ cl.slots.size ≤ ((1 : Int32)).toNatClampNeg)) (hat1 : cl.slots[((1 : Int32)).toNatClampNeg]? = some (.ref w6)) (hin2 : ¬ ((2 : Int32) < 0 ∨ cl.slots.size ≤ ((2 : Int32)).toNatClampNeg)) (hat2 : cl.slots[((2 : Int32)).toNatClampNeg]? = some (.ref w9)) (F_code_w3 : Fld Z h0 w3 "com/example/tresord/tresord/keymodule/CheckKeyKind" "code" "B" (.int (1 : Int32))) (F_code_w6 : Fld Z h0 w6 "com/example/tresord/tresord/keymodule/CheckKeyKind" "code" "B" (.int (2 : Int32))) (F_code_w9 : Fld Z h0 w9 "com/example/tresord/tresord/keymodule/CheckKeyKind" "code" "B" (.int (3 : Int32))) (hc25_0 : ¬ ((1 : Int32) = p1)) (hc25_1 : ¬ ((2 : Int32) = p1)) (hc25_2 : (3 : Int32) = p1) :
    MetFree l (⟨"com/example/tresord/tresord/keymodule/CheckKeyKind", "fromCode", "(B)Lcom/example/tresord/tresord/keymodule/CheckKeyKind;"⟩ : MethodName) (head1 (Jvm.Cond.code (⟨"com/example/tresord/tresord/keymodule/CheckKeyKind", "fromCode", "(B)Lcom/example/tresord/tresord/keymodule/CheckKeyKind;"⟩ : MethodName) prog_6_method_6_code 5 (some (.object "com/example/tresord/tresord/keymodule/CheckKeyKind")) :: ws) ({ frames := 2, cells := 1, slots := 3, locals := 25 } : Room)) (fun a U => a = #[(.int p1)] ∧ Z.Warmed39 U.vm ∧ U.heap = h0) (fun _ _ _ _ _ => True) (fun _ U o U' => ∃ v L, o = .returned v ∧ Q1_3 Z p1 w3 w6 w9 h0 n0 v U'.heap L ∧ FrameEnd U o U' L ({ frames := 2, cells := 1, slots := 3, locals := 25 } : Room).cells ({ frames := 2, cells := 1, slots := 3, locals := 25 } : Room).slots) := by
  refine MetFree.of_bodySF (plainFor_of_name pn_1) hisR ?_
  intro p e s m args below meth c s₁ Bd hml0 hP hK
  obtain ⟨rfl, hZ, hh⟩ := hP
  have hx := Bd.exec
  have hby := Bd.bytes
  have hml : c.maxLocals = 5 := hml0
  have hown : s.vm.findClass "com/example/tresord/tresord/keymodule/CheckKeyKind" = some m.cls := findClass_of_methodNamed Bd.named
  have hnm := (name_of_methodNamed Bd.named Bd.method).1
  have X0 : Stand p l e ({ frames := 2, cells := 1, slots := 3, locals := 25 } : Room) s m #[(.int p1)] below meth c s₁ [] 0 0 := Stand.of_body Bd
  have e0 : s₁.heap = h0 := by rw [← hh, Bd.state]; rfl
  have N0 := Fr.nil n0
  have pre0 : ∀ t, Steps p.tables e below (s₁.setTop (mkF m 0 #[.val (.int p1), .unset, .unset, .unset, .unset] [])) t → Steps p.tables e below (s₁.setTop (entryFrame m #[(.int p1)] 5)) t := fun t k => castTop (ef_1 m p1) k
  -- 3. LAWS
  -- pc 0: com/example/tresord/tresord/keymodule/CheckKeyKind.values by its contract rm2
  obtain ⟨_, _, ⟨T2, L2, k2, n2⟩, -, X2, ⟨Lc2, hQ2, l2, y2, z2⟩, st2⟩ := Jvm.LawKit.callS X0 hx (y := (⟨"com/example/tresord/tresord/keymodule/CheckKeyKind", "values", "()[Lcom/example/tresord/tresord/keymodule/CheckKeyKind;"⟩ : MethodName)) hown (mvT hZ (hw _ (List.mem_of_getElem? (i := 5) rfl))) (mvT hZ (hw _ (List.mem_of_getElem? (i := 6) rfl))) (mvT hZ (hw _ (List.mem_of_getElem? (i := 3) rfl))) (mvT hZ (hw _ (List.mem_of_getElem? (i := 7) rfl))) (by decide) (backOf (W := 0) (rm2 l Z a0 hw []  wv cl h0 n0 Z0 S_v E_v Ar_v FC hsz) hZ (hw _ (List.mem_of_getElem? (i := 7) rfl)) (hw _ (List.mem_of_getElem? (i := 3) rfl)) (by decide) (by decide)) (g := (mkF m 0 #[.val (.int p1), .unset, .unset, .unset, .unset] [])) rfl (by rw [hml]; rfl) (argsL := []) (rest := []) (lenOf pd_1_1 rfl) rfl (by show 2 * 0 + _ ≤ _; exact Nat.le_of_eq rfl) (hb hby d1_0) (fun _ _ => ⟨rfl, e0, (by decide : 0 + 1 ≤ _), (by decide : 0 + 3 ≤ _)⟩)
  dsimp only [Pt.U, Pt.locs, Pt.cells, Pt.slots] at X2 l2 y2 z2 st2 hQ2
  subst l2 y2 z2
  obtain ⟨rfl, N2q, x2, ck, Ar, hck⟩ := hQ2
  have S3 : ck.slots.size = ((3 : Int32)).toNatClampNeg := by rw [hck, hsz]; rfl
  have N3 : ¬ ((3 : Int32) < 0) := by decide
  have hin_0 : ¬ ((0 : Int32) < 0 ∨ ck.slots.size ≤ ((0 : Int32)).toNatClampNeg) := by rw [hck]; exact hin0
  have hat_0 : ck.slots[((0 : Int32)).toNatClampNeg]? = some (.ref w3) := by rw [hck]; exact hat0
  have hin_1 : ¬ ((1 : Int32) < 0 ∨ ck.slots.size ≤ ((1 : Int32)).toNatClampNeg) := by rw [hck]; exact hin1
  have hat_1 : ck.slots[((1 : Int32)).toNatClampNeg]? = some (.ref w6) := by rw [hck]; exact hat1
  have hin_2 : ¬ ((2 : Int32) < 0 ∨ ck.slots.size ≤ ((2 : Int32)).toNatClampNeg) := by rw [hck]; exact hin2
  have hat_2 : ck.slots[((2 : Int32)).toNatClampNeg]? = some (.ref w9) := by rw [hck]; exact hat2      -- what it returned, that it wrote nothing old, and the rest of your Q2
  have N2 := Fr.app N0 N2q
  obtain ⟨T5, X5, e5, st5⟩ := getF X2 hx hZ hown (host := "") (Or.inl (hw _ (List.mem_of_getElem? (i := 23) rfl))) Via.refl rfl (F_code_w3.ext x2) (g := (mkF m 21 #[.val (.int p1), .val (.ref h0.size), .val (.int (3 : Int32)), .val (.int (0 : Int32)), .val (.ref w3)] [(.ref w3)])) rfl rfl (hb hby d1_21)
  obtain ⟨T8, X8, e8, st8⟩ := getF X5 hx hZ hown (host := "") (Or.inl (hw _ (List.mem_of_getElem? (i := 23) rfl))) Via.refl e5 (F_code_w6.ext x2) (g := (mkF m 21 #[.val (.int p1), .val (.ref h0.size), .val (.int (3 : Int32)), .val (.int (1 : Int32)), .val (.ref w6)] [(.ref w6)])) rfl rfl (hb hby d1_21)
  obtain ⟨T11, X11, e11, st11⟩ := getF X8 hx hZ hown (host := "") (Or.inl (hw _ (List.mem_of_getElem? (i := 23) rfl))) Via.refl e8 (F_code_w9.ext x2) (g := (mkF m 21 #[.val (.int p1), .val (.ref h0.size), .val (.int (3 : Int32)), .val (.int (2 : Int32)), .val (.ref w9)] [(.ref w9)])) rfl rfl (hb hby d1_21)
  obtain ⟨fs, hr, hrun, hended, hW, hsame⟩ := X11.leave (v := some (.ref w9)) (fun h => by rw [Bd.returns] at h; cases h)
  refine ⟨_, _, pre0 _ ?_, hrun, hended, _, _, rfl, ?_, ⟨_, rfl⟩, hW, hsame.mono (by decide) (by decide)⟩
  -- 4. STEPS
  · show Steps p.tables e below (s₁.setTop (mkF m 0 #[.val (.int p1), .unset, .unset, .unset, .unset] [])) _
    refine st2 _ ?_
    show Steps p.tables e below (T2.setTop (mkF m 3 #[.val (.int p1), .unset, .unset, .unset, .unset] [(.ref h0.size)])) _
    refine XS.astoreN X2.here hx rfl (hb hby d1_3) rfl rfl (l' := #[.val (.int p1), .val (.ref h0.size), .unset, .unset, .unset]) rfl ?_
    show Steps p.tables e below (T2.setTop (mkF m 4 #[.val (.int p1), .val (.ref h0.size), .unset, .unset, .unset] [])) _
    refine XS.aloadN X2.here hx rfl (hb hby d1_4) rfl rfl ?_
    show Steps p.tables e below (T2.setTop (mkF m 5 #[.val (.int p1), .val (.ref h0.size), .unset, .unset, .unset] [(.ref h0.size)])) _
    refine X2.arraylength hx Ar.1 (State.isArrayOf_alike hZ.alike Ar.2.1) (g := (mkF m 5 #[.val (.int p1), .val (.ref h0.size), .unset, .unset, .unset] [(.ref h0.size)])) rfl rfl (hb hby d1_5) _ ?_
    rw [len_of S3 N3]
    show Steps p.tables e below (T2.setTop (mkF m 6 #[.val (.int p1), .val (.ref h0.size), .unset, .unset, .unset] [(.int (3 : Int32))])) _
    refine XS.istoreN X2.here hx rfl (hb hby d1_6) rfl (l' := #[.val (.int p1), .val (.ref h0.size), .val (.int (3 : Int32)), .unset, .unset]) rfl ?_
    show Steps p.tables e below (T2.setTop (mkF m 7 #[.val (.int p1), .val (.ref h0.size), .val (.int (3 : Int32)), .unset, .unset] [])) _
    refine XS.iconst X2.here hx rfl (hb hby d1_7) ?_
    show Steps p.tables e below (T2.setTop (mkF m 8 #[.val (.int p1), .val (.ref h0.size), .val (.int (3 : Int32)), .unset, .unset] [(.int (0 : Int32))])) _
    refine XS.istoreN X2.here hx rfl (hb hby d1_8) rfl (l' := #[.val (.int p1), .val (.ref h0.size), .val (.int (3 : Int32)), .val (.int (0 : Int32)), .unset]) rfl ?_
    show Steps p.tables e below (T2.setTop (mkF m 9 #[.val (.int p1), .val (.ref h0.size), .val (.int (3 : Int32)), .val (.int (0 : Int32)), .unset] [])) _
    refine XS.iloadN X2.here hx rfl (hb hby d1_9) rfl ?_
    show Steps p.tables e below (T2.setTop (mkF m 10 #[.val (.int p1), .val (.ref h0.size), .val (.int (3 : Int32)), .val (.int (0 : Int32)), .unset] [(.int (0 : Int32))])) _
    refine XS.iloadN X2.here hx rfl (hb hby d1_10) rfl ?_
    show Steps p.tables e below (T2.setTop (mkF m 11 #[.val (.int p1), .val (.ref h0.size), .val (.int (3 : Int32)), .val (.int (0 : Int32)), .unset] [(.int (3 : Int32)), (.int (0 : Int32))])) _
    refine XS.icmpNo X2.here hx rfl (hb hby d1_11) rfl (tlt (by decide : (0 : Int32) < (3 : Int32))).2.1 ?_
    show Steps p.tables e below (T2.setTop (mkF m 14 #[.val (.int p1), .val (.ref h0.size), .val (.int (3 : Int32)), .val (.int (0 : Int32)), .unset] [])) _
    refine XS.aloadN X2.here hx rfl (hb hby d1_14) rfl rfl ?_
    show Steps p.tables e below (T2.setTop (mkF m 15 #[.val (.int p1), .val (.ref h0.size), .val (.int (3 : Int32)), .val (.int (0 : Int32)), .unset] [(.ref h0.size)])) _
    refine XS.iloadN X2.here hx rfl (hb hby d1_15) rfl ?_
    show Steps p.tables e below (T2.setTop (mkF m 16 #[.val (.int p1), .val (.ref h0.size), .val (.int (3 : Int32)), .val (.int (0 : Int32)), .unset] [(.int (0 : Int32)), (.ref h0.size)])) _
    refine X2.aaload hx (j := (0 : Int32)) (v := (.ref w3)) Ar.1 (State.isArrayOf_alike hZ.alike Ar.2.1) rfl Ar.2.2 hin_0 hat_0 (g := (mkF m 16 #[.val (.int p1), .val (.ref h0.size), .val (.int (3 : Int32)), .val (.int (0 : Int32)), .unset] [(.int (0 : Int32)), (.ref h0.size)])) rfl rfl (hb hby d1_16) _ ?_
    show Steps p.tables e below (T2.setTop (mkF m 17 #[.val (.int p1), .val (.ref h0.size), .val (.int (3 : Int32)), .val (.int (0 : Int32)), .unset] [(.ref w3)])) _
    refine XS.astore X2.here hx rfl (hb hby d1_17) rfl rfl (l' := #[.val (.int p1), .val (.ref h0.size), .val (.int (3 : Int32)), .val (.int (0 : Int32)), .val (.ref w3)]) rfl ?_
    show Steps p.tables e below (T2.setTop (mkF m 19 #[.val (.int p1), .val (.ref h0.size), .val (.int (3 : Int32)), .val (.int (0 : Int32)), .val (.ref w3)] [])) _
    refine XS.aload X2.here hx rfl (hb hby d1_19) rfl rfl ?_
    show Steps p.tables e below (T2.setTop (mkF m 21 #[.val (.int p1), .val (.ref h0.size), .val (.int (3 : Int32)), .val (.int (0 : Int32)), .val (.ref w3)] [(.ref w3)])) _
    refine st5 _ ?_
    show Steps p.tables e below (T5.setTop (mkF m 24 #[.val (.int p1), .val (.ref h0.size), .val (.int (3 : Int32)), .val (.int (0 : Int32)), .val (.ref w3)] [(.int (1 : Int32))])) _
    refine XS.iloadN X5.here hx rfl (hb hby d1_24) rfl ?_
    show Steps p.tables e below (T5.setTop (mkF m 25 #[.val (.int p1), .val (.ref h0.size), .val (.int (3 : Int32)), .val (.int (0 : Int32)), .val (.ref w3)] [(.int p1), (.int (1 : Int32))])) _
    refine XS.icmpYes X5.here hx rfl (pc0 := 25) (pc' := 31) rfl (hb hby d1_25) rfl (feq hc25_0).2 (by decide) (by decide) ?_
    show Steps p.tables e below (T5.setTop (mkF m 31 #[.val (.int p1), .val (.ref h0.size), .val (.int (3 : Int32)), .val (.int (0 : Int32)), .val (.ref w3)] [])) _
    refine XS.iinc X5.here hx rfl (hb hby d1_31) rfl (l' := #[.val (.int p1), .val (.ref h0.size), .val (.int (3 : Int32)), .val (.int (1 : Int32)), .val (.ref w3)]) rfl ?_
    show Steps p.tables e below (T5.setTop (mkF m 34 #[.val (.int p1), .val (.ref h0.size), .val (.int (3 : Int32)), .val (.int (1 : Int32)), .val (.ref w3)] [])) _
    refine XS.goto X5.here hx rfl (pc0 := 34) (pc' := 9) rfl (hb hby d1_34) (by decide) (by decide) ?_
    show Steps p.tables e below (T5.setTop (mkF m 9 #[.val (.int p1), .val (.ref h0.size), .val (.int (3 : Int32)), .val (.int (1 : Int32)), .val (.ref w3)] [])) _
    refine XS.iloadN X5.here hx rfl (hb hby d1_9) rfl ?_
    show Steps p.tables e below (T5.setTop (mkF m 10 #[.val (.int p1), .val (.ref h0.size), .val (.int (3 : Int32)), .val (.int (1 : Int32)), .val (.ref w3)] [(.int (1 : Int32))])) _
    refine XS.iloadN X5.here hx rfl (hb hby d1_10) rfl ?_
    show Steps p.tables e below (T5.setTop (mkF m 11 #[.val (.int p1), .val (.ref h0.size), .val (.int (3 : Int32)), .val (.int (1 : Int32)), .val (.ref w3)] [(.int (3 : Int32)), (.int (1 : Int32))])) _
    refine XS.icmpNo X5.here hx rfl (hb hby d1_11) rfl (tlt (by decide : (1 : Int32) < (3 : Int32))).2.1 ?_
    show Steps p.tables e below (T5.setTop (mkF m 14 #[.val (.int p1), .val (.ref h0.size), .val (.int (3 : Int32)), .val (.int (1 : Int32)), .val (.ref w3)] [])) _
    refine XS.aloadN X5.here hx rfl (hb hby d1_14) rfl rfl ?_
    show Steps p.tables e below (T5.setTop (mkF m 15 #[.val (.int p1), .val (.ref h0.size), .val (.int (3 : Int32)), .val (.int (1 : Int32)), .val (.ref w3)] [(.ref h0.size)])) _
    refine XS.iloadN X5.here hx rfl (hb hby d1_15) rfl ?_
    show Steps p.tables e below (T5.setTop (mkF m 16 #[.val (.int p1), .val (.ref h0.size), .val (.int (3 : Int32)), .val (.int (1 : Int32)), .val (.ref w3)] [(.int (1 : Int32)), (.ref h0.size)])) _
    refine X5.aaload hx (j := (1 : Int32)) (v := (.ref w6)) (by rw [e5]; exact Ar.1) (State.isArrayOf_alike hZ.alike Ar.2.1) rfl Ar.2.2 hin_1 hat_1 (g := (mkF m 16 #[.val (.int p1), .val (.ref h0.size), .val (.int (3 : Int32)), .val (.int (1 : Int32)), .val (.ref w3)] [(.int (1 : Int32)), (.ref h0.size)])) rfl rfl (hb hby d1_16) _ ?_
    show Steps p.tables e below (T5.setTop (mkF m 17 #[.val (.int p1), .val (.ref h0.size), .val (.int (3 : Int32)), .val (.int (1 : Int32)), .val (.ref w3)] [(.ref w6)])) _
    refine XS.astore X5.here hx rfl (hb hby d1_17) rfl rfl (l' := #[.val (.int p1), .val (.ref h0.size), .val (.int (3 : Int32)), .val (.int (1 : Int32)), .val (.ref w6)]) rfl ?_
    show Steps p.tables e below (T5.setTop (mkF m 19 #[.val (.int p1), .val (.ref h0.size), .val (.int (3 : Int32)), .val (.int (1 : Int32)), .val (.ref w6)] [])) _
    refine XS.aload X5.here hx rfl (hb hby d1_19) rfl rfl ?_
    show Steps p.tables e below (T5.setTop (mkF m 21 #[.val (.int p1), .val (.ref h0.size), .val (.int (3 : Int32)), .val (.int (1 : Int32)), .val (.ref w6)] [(.ref w6)])) _
    refine st8 _ ?_
    show Steps p.tables e below (T8.setTop (mkF m 24 #[.val (.int p1), .val (.ref h0.size), .val (.int (3 : Int32)), .val (.int (1 : Int32)), .val (.ref w6)] [(.int (2 : Int32))])) _
    refine XS.iloadN X8.here hx rfl (hb hby d1_24) rfl ?_
    show Steps p.tables e below (T8.setTop (mkF m 25 #[.val (.int p1), .val (.ref h0.size), .val (.int (3 : Int32)), .val (.int (1 : Int32)), .val (.ref w6)] [(.int p1), (.int (2 : Int32))])) _
    refine XS.icmpYes X8.here hx rfl (pc0 := 25) (pc' := 31) rfl (hb hby d1_25) rfl (feq hc25_1).2 (by decide) (by decide) ?_
    show Steps p.tables e below (T8.setTop (mkF m 31 #[.val (.int p1), .val (.ref h0.size), .val (.int (3 : Int32)), .val (.int (1 : Int32)), .val (.ref w6)] [])) _
    refine XS.iinc X8.here hx rfl (hb hby d1_31) rfl (l' := #[.val (.int p1), .val (.ref h0.size), .val (.int (3 : Int32)), .val (.int (2 : Int32)), .val (.ref w6)]) rfl ?_
    show Steps p.tables e below (T8.setTop (mkF m 34 #[.val (.int p1), .val (.ref h0.size), .val (.int (3 : Int32)), .val (.int (2 : Int32)), .val (.ref w6)] [])) _
    refine XS.goto X8.here hx rfl (pc0 := 34) (pc' := 9) rfl (hb hby d1_34) (by decide) (by decide) ?_
    show Steps p.tables e below (T8.setTop (mkF m 9 #[.val (.int p1), .val (.ref h0.size), .val (.int (3 : Int32)), .val (.int (2 : Int32)), .val (.ref w6)] [])) _
    refine XS.iloadN X8.here hx rfl (hb hby d1_9) rfl ?_
    show Steps p.tables e below (T8.setTop (mkF m 10 #[.val (.int p1), .val (.ref h0.size), .val (.int (3 : Int32)), .val (.int (2 : Int32)), .val (.ref w6)] [(.int (2 : Int32))])) _
    refine XS.iloadN X8.here hx rfl (hb hby d1_10) rfl ?_
    show Steps p.tables e below (T8.setTop (mkF m 11 #[.val (.int p1), .val (.ref h0.size), .val (.int (3 : Int32)), .val (.int (2 : Int32)), .val (.ref w6)] [(.int (3 : Int32)), (.int (2 : Int32))])) _
    refine XS.icmpNo X8.here hx rfl (hb hby d1_11) rfl (tlt (by decide : (2 : Int32) < (3 : Int32))).2.1 ?_
    show Steps p.tables e below (T8.setTop (mkF m 14 #[.val (.int p1), .val (.ref h0.size), .val (.int (3 : Int32)), .val (.int (2 : Int32)), .val (.ref w6)] [])) _
    refine XS.aloadN X8.here hx rfl (hb hby d1_14) rfl rfl ?_
    show Steps p.tables e below (T8.setTop (mkF m 15 #[.val (.int p1), .val (.ref h0.size), .val (.int (3 : Int32)), .val (.int (2 : Int32)), .val (.ref w6)] [(.ref h0.size)])) _
    refine XS.iloadN X8.here hx rfl (hb hby d1_15) rfl ?_
    show Steps p.tables e below (T8.setTop (mkF m 16 #[.val (.int p1), .val (.ref h0.size), .val (.int (3 : Int32)), .val (.int (2 : Int32)), .val (.ref w6)] [(.int (2 : Int32)), (.ref h0.size)])) _
    refine X8.aaload hx (j := (2 : Int32)) (v := (.ref w9)) (by rw [e8]; exact Ar.1) (State.isArrayOf_alike hZ.alike Ar.2.1) rfl Ar.2.2 hin_2 hat_2 (g := (mkF m 16 #[.val (.int p1), .val (.ref h0.size), .val (.int (3 : Int32)), .val (.int (2 : Int32)), .val (.ref w6)] [(.int (2 : Int32)), (.ref h0.size)])) rfl rfl (hb hby d1_16) _ ?_
    show Steps p.tables e below (T8.setTop (mkF m 17 #[.val (.int p1), .val (.ref h0.size), .val (.int (3 : Int32)), .val (.int (2 : Int32)), .val (.ref w6)] [(.ref w9)])) _
    refine XS.astore X8.here hx rfl (hb hby d1_17) rfl rfl (l' := #[.val (.int p1), .val (.ref h0.size), .val (.int (3 : Int32)), .val (.int (2 : Int32)), .val (.ref w9)]) rfl ?_
    show Steps p.tables e below (T8.setTop (mkF m 19 #[.val (.int p1), .val (.ref h0.size), .val (.int (3 : Int32)), .val (.int (2 : Int32)), .val (.ref w9)] [])) _
    refine XS.aload X8.here hx rfl (hb hby d1_19) rfl rfl ?_
    show Steps p.tables e below (T8.setTop (mkF m 21 #[.val (.int p1), .val (.ref h0.size), .val (.int (3 : Int32)), .val (.int (2 : Int32)), .val (.ref w9)] [(.ref w9)])) _
    refine st11 _ ?_
    show Steps p.tables e below (T11.setTop (mkF m 24 #[.val (.int p1), .val (.ref h0.size), .val (.int (3 : Int32)), .val (.int (2 : Int32)), .val (.ref w9)] [(.int (3 : Int32))])) _
    refine XS.iloadN X11.here hx rfl (hb hby d1_24) rfl ?_
    show Steps p.tables e below (T11.setTop (mkF m 25 #[.val (.int p1), .val (.ref h0.size), .val (.int (3 : Int32)), .val (.int (2 : Int32)), .val (.ref w9)] [(.int p1), (.int (3 : Int32))])) _
    refine XS.icmpNo X11.here hx rfl (hb hby d1_25) rfl (teq hc25_2).2 ?_
    show Steps p.tables e below (T11.setTop (mkF m 28 #[.val (.int p1), .val (.ref h0.size), .val (.int (3 : Int32)), .val (.int (2 : Int32)), .val (.ref w9)] [])) _
    refine XS.aload X11.here hx rfl (hb hby d1_28) rfl rfl ?_
    show Steps p.tables e below (T11.setTop (mkF m 30 #[.val (.int p1), .val (.ref h0.size), .val (.int (3 : Int32)), .val (.int (2 : Int32)), .val (.ref w9)] [(.ref w9)])) _
    jvm_step X11.here [X11.here.top, hx, (hb hby d1_30), X11.method', Bd.returns, Value.isRef, FieldType.isReference]
    first | (intro acts; rw [hr _ acts rfl rfl rfl]) | rw [hr _ _ rfl rfl rfl]
    exact Steps.refl _
  · show Q1_3 Z p1 w3 w6 w9 h0 n0 _ T11.heap _
    rw [e11]
    exact ⟨rfl, N2, x2⟩
theorem d3_0 : decode method_2_code 0 = .ok (.iload_n 0, 1) := by decide +kernel
theorem d3_1 : decode method_2_code 1 = .ok (.iconst 1, 1) := by decide +kernel
theorem d3_2 : decode method_2_code 2 = .ok (.if_icmp .ne 7, 3) := by decide +kernel
theorem d3_5 : decode method_2_code 5 = .ok (.getstatic 7, 3) := by decide +kernel
theorem d3_8 : decode method_2_code 8 = .ok (.areturn, 1) := by decide +kernel
theorem pn_3 : plainName "com/example/tresord/tresord/keymodule/CheckKeyKindFromCodePinLaw" = true := by first | (simp [plainName, overriddenIn]; done) | decide +kernel
theorem ef_3 (m : MethodId) (x0 : Int32) : entryFrame m #[(.int x0)] 1 = mkF m 0 #[.val (.int x0)] [] := by first | (simp [entryFrame, mkF, argsToLocals, Value.category]; done) | rfl
def Q3_1 (Z : State) (p1 : Int32) (w2 : Addr) (h0 : Heap) (n0 : Nat) (v : Option Value) (h : Heap) (L : List Loc) : Prop := v = some (.ref w2) ∧ Fr n0 L ∧ h = h0
set_option maxRecDepth 65536 in
set_option maxHeartbeats 40000000 in
theorem rm3_1 (l : Launch) (Z : State) (a0 : Array Value) (hw : ∀ d ∈ tables_1, d.before a0 Z = true) (ws : List Jvm.Cond) (p1 : Int32) (w2 : Addr) (h0 : Heap) (n0 : Nat) (Z0 : n0 ≤ h0.size) (S_ROOT : Sta Z h0 "com/example/tresord/tresord/keymodule/CheckKeyKind" "ROOT" "Lcom/example/tresord/tresord/keymodule/CheckKeyKind;" (.ref w2)) (hc2 : p1 = (1 : Int32)) :
    MetFree l (⟨"com/example/tresord/tresord/keymodule/CheckKeyKindFromCodePinLaw", "expected", "(I)Lcom/example/tresord/tresord/keymodule/CheckKeyKind;"⟩ : MethodName) (head1 (Jvm.Cond.code (⟨"com/example/tresord/tresord/keymodule/CheckKeyKindFromCodePinLaw", "expected", "(I)Lcom/example/tresord/tresord/keymodule/CheckKeyKind;"⟩ : MethodName) method_2_code 1 (some (.object "com/example/tresord/tresord/keymodule/CheckKeyKind")) :: ws) ({ frames := 0, cells := 0, slots := 0, locals := 0 } : Room)) (fun a U => a = #[(.int p1)] ∧ Z.Warmed39 U.vm ∧ U.heap = h0) (fun _ _ _ _ _ => True) (fun _ U o U' => ∃ v L, o = .returned v ∧ Q3_1 Z p1 w2 h0 n0 v U'.heap L ∧ FrameEnd U o U' L ({ frames := 0, cells := 0, slots := 0, locals := 0 } : Room).cells ({ frames := 0, cells := 0, slots := 0, locals := 0 } : Room).slots) := by
  refine MetFree.of_bodySF (plainFor_of_name pn_3) hisR ?_
  intro p e s m args below meth c s₁ Bd hml0 hP hK
  obtain ⟨rfl, hZ, hh⟩ := hP
  have hx := Bd.exec
  have hby := Bd.bytes
  have hml : c.maxLocals = 1 := hml0
  have hown : s.vm.findClass "com/example/tresord/tresord/keymodule/CheckKeyKindFromCodePinLaw" = some m.cls := findClass_of_methodNamed Bd.named
  have hnm := (name_of_methodNamed Bd.named Bd.method).1
  have X0 : Stand p l e ({ frames := 0, cells := 0, slots := 0, locals := 0 } : Room) s m #[(.int p1)] below meth c s₁ [] 0 0 := Stand.of_body Bd
  have e0 : s₁.heap = h0 := by rw [← hh, Bd.state]; rfl
  have N0 := Fr.nil n0
  have pre0 : ∀ t, Steps p.tables e below (s₁.setTop (mkF m 0 #[.val (.int p1)] [])) t → Steps p.tables e below (s₁.setTop (entryFrame m #[(.int p1)] 1)) t := fun t k => castTop (ef_3 m p1) k
  -- 3. LAWS
  obtain ⟨T3, X3, e3, st3⟩ := getS2 X0 hx hZ hown (host := "") (Or.inl (hw _ (List.mem_of_getElem? (i := 29) rfl))) Via.refl e0 S_ROOT (g := (mkF m 5 #[.val (.int p1)] [])) rfl (hb hby d3_5)
  obtain ⟨fs, hr, hrun, hended, hW, hsame⟩ := X3.leave (v := some (.ref w2)) (fun h => by rw [Bd.returns] at h; cases h)
  refine ⟨_, _, pre0 _ ?_, hrun, hended, _, _, rfl, ?_, ⟨_, rfl⟩, hW, hsame.mono (by decide) (by decide)⟩
  -- 4. STEPS
  · show Steps p.tables e below (s₁.setTop (mkF m 0 #[.val (.int p1)] [])) _
    refine XS.iloadN X0.here hx rfl (hb hby d3_0) rfl ?_
    show Steps p.tables e below (s₁.setTop (mkF m 1 #[.val (.int p1)] [(.int p1)])) _
    refine XS.iconst X0.here hx rfl (hb hby d3_1) ?_
    show Steps p.tables e below (s₁.setTop (mkF m 2 #[.val (.int p1)] [(.int (1 : Int32)), (.int p1)])) _
    refine XS.icmpNo X0.here hx rfl (hb hby d3_2) rfl (teq hc2).2 ?_
    show Steps p.tables e below (s₁.setTop (mkF m 5 #[.val (.int p1)] [])) _
    refine st3 _ ?_
    show Steps p.tables e below (T3.setTop (mkF m 8 #[.val (.int p1)] [(.ref w2)])) _
    jvm_step X3.here [X3.here.top, hx, (hb hby d3_8), X3.method', Bd.returns, Value.isRef, FieldType.isReference]
    first | (intro acts; rw [hr _ acts rfl rfl rfl]) | rw [hr _ _ rfl rfl rfl]
    exact Steps.refl _
  · show Q3_1 Z p1 w2 h0 n0 _ T3.heap _
    rw [e3]
    exact ⟨rfl, N0, rfl⟩
theorem d3_9 : decode method_2_code 9 = .ok (.iload_n 0, 1) := by decide +kernel
theorem d3_10 : decode method_2_code 10 = .ok (.iconst 2, 1) := by decide +kernel
theorem d3_11 : decode method_2_code 11 = .ok (.if_icmp .ne 7, 3) := by decide +kernel
theorem d3_14 : decode method_2_code 14 = .ok (.getstatic 13, 3) := by decide +kernel
theorem d3_17 : decode method_2_code 17 = .ok (.areturn, 1) := by decide +kernel
def Q3_2 (Z : State) (p1 : Int32) (w2 : Addr) (h0 : Heap) (n0 : Nat) (v : Option Value) (h : Heap) (L : List Loc) : Prop := v = some (.ref w2) ∧ Fr n0 L ∧ h = h0
set_option maxRecDepth 65536 in
set_option maxHeartbeats 40000000 in
theorem rm3_2 (l : Launch) (Z : State) (a0 : Array Value) (hw : ∀ d ∈ tables_1, d.before a0 Z = true) (ws : List Jvm.Cond) (p1 : Int32) (w2 : Addr) (h0 : Heap) (n0 : Nat) (Z0 : n0 ≤ h0.size) (S_CA : Sta Z h0 "com/example/tresord/tresord/keymodule/CheckKeyKind" "CA" "Lcom/example/tresord/tresord/keymodule/CheckKeyKind;" (.ref w2)) (hc2 : ¬ (p1 = (1 : Int32))) (hc11 : p1 = (2 : Int32)) :
    MetFree l (⟨"com/example/tresord/tresord/keymodule/CheckKeyKindFromCodePinLaw", "expected", "(I)Lcom/example/tresord/tresord/keymodule/CheckKeyKind;"⟩ : MethodName) (head1 (Jvm.Cond.code (⟨"com/example/tresord/tresord/keymodule/CheckKeyKindFromCodePinLaw", "expected", "(I)Lcom/example/tresord/tresord/keymodule/CheckKeyKind;"⟩ : MethodName) method_2_code 1 (some (.object "com/example/tresord/tresord/keymodule/CheckKeyKind")) :: ws) ({ frames := 0, cells := 0, slots := 0, locals := 0 } : Room)) (fun a U => a = #[(.int p1)] ∧ Z.Warmed39 U.vm ∧ U.heap = h0) (fun _ _ _ _ _ => True) (fun _ U o U' => ∃ v L, o = .returned v ∧ Q3_2 Z p1 w2 h0 n0 v U'.heap L ∧ FrameEnd U o U' L ({ frames := 0, cells := 0, slots := 0, locals := 0 } : Room).cells ({ frames := 0, cells := 0, slots := 0, locals := 0 } : Room).slots) := by
  refine MetFree.of_bodySF (plainFor_of_name pn_3) hisR ?_
  intro p e s m args below meth c s₁ Bd hml0 hP hK
  obtain ⟨rfl, hZ, hh⟩ := hP
  have hx := Bd.exec
  have hby := Bd.bytes
  have hml : c.maxLocals = 1 := hml0
  have hown : s.vm.findClass "com/example/tresord/tresord/keymodule/CheckKeyKindFromCodePinLaw" = some m.cls := findClass_of_methodNamed Bd.named
  have hnm := (name_of_methodNamed Bd.named Bd.method).1
  have X0 : Stand p l e ({ frames := 0, cells := 0, slots := 0, locals := 0 } : Room) s m #[(.int p1)] below meth c s₁ [] 0 0 := Stand.of_body Bd
  have e0 : s₁.heap = h0 := by rw [← hh, Bd.state]; rfl
  have N0 := Fr.nil n0
  have pre0 : ∀ t, Steps p.tables e below (s₁.setTop (mkF m 0 #[.val (.int p1)] [])) t → Steps p.tables e below (s₁.setTop (entryFrame m #[(.int p1)] 1)) t := fun t k => castTop (ef_3 m p1) k
  -- 3. LAWS
  obtain ⟨T3, X3, e3, st3⟩ := getS2 X0 hx hZ hown (host := "") (Or.inl (hw _ (List.mem_of_getElem? (i := 36) rfl))) Via.refl e0 S_CA (g := (mkF m 14 #[.val (.int p1)] [])) rfl (hb hby d3_14)
  obtain ⟨fs, hr, hrun, hended, hW, hsame⟩ := X3.leave (v := some (.ref w2)) (fun h => by rw [Bd.returns] at h; cases h)
  refine ⟨_, _, pre0 _ ?_, hrun, hended, _, _, rfl, ?_, ⟨_, rfl⟩, hW, hsame.mono (by decide) (by decide)⟩
  -- 4. STEPS
  · show Steps p.tables e below (s₁.setTop (mkF m 0 #[.val (.int p1)] [])) _
    refine XS.iloadN X0.here hx rfl (hb hby d3_0) rfl ?_
    show Steps p.tables e below (s₁.setTop (mkF m 1 #[.val (.int p1)] [(.int p1)])) _
    refine XS.iconst X0.here hx rfl (hb hby d3_1) ?_
    show Steps p.tables e below (s₁.setTop (mkF m 2 #[.val (.int p1)] [(.int (1 : Int32)), (.int p1)])) _
    refine XS.icmpYes X0.here hx rfl (pc0 := 2) (pc' := 9) rfl (hb hby d3_2) rfl (feq hc2).2 (by decide) (by decide) ?_
    show Steps p.tables e below (s₁.setTop (mkF m 9 #[.val (.int p1)] [])) _
    refine XS.iloadN X0.here hx rfl (hb hby d3_9) rfl ?_
    show Steps p.tables e below (s₁.setTop (mkF m 10 #[.val (.int p1)] [(.int p1)])) _
    refine XS.iconst X0.here hx rfl (hb hby d3_10) ?_
    show Steps p.tables e below (s₁.setTop (mkF m 11 #[.val (.int p1)] [(.int (2 : Int32)), (.int p1)])) _
    refine XS.icmpNo X0.here hx rfl (hb hby d3_11) rfl (teq hc11).2 ?_
    show Steps p.tables e below (s₁.setTop (mkF m 14 #[.val (.int p1)] [])) _
    refine st3 _ ?_
    show Steps p.tables e below (T3.setTop (mkF m 17 #[.val (.int p1)] [(.ref w2)])) _
    jvm_step X3.here [X3.here.top, hx, (hb hby d3_17), X3.method', Bd.returns, Value.isRef, FieldType.isReference]
    first | (intro acts; rw [hr _ acts rfl rfl rfl]) | rw [hr _ _ rfl rfl rfl]
    exact Steps.refl _
  · show Q3_2 Z p1 w2 h0 n0 _ T3.heap _
    rw [e3]
    exact ⟨rfl, N0, rfl⟩
theorem d3_18 : decode method_2_code 18 = .ok (.getstatic 16, 3) := by decide +kernel
theorem d3_21 : decode method_2_code 21 = .ok (.areturn, 1) := by decide +kernel
def Q3_3 (Z : State) (p1 : Int32) (w2 : Addr) (h0 : Heap) (n0 : Nat) (v : Option Value) (h : Heap) (L : List Loc) : Prop := v = some (.ref w2) ∧ Fr n0 L ∧ h = h0
set_option maxRecDepth 65536 in
set_option maxHeartbeats 40000000 in
theorem rm3_3 (l : Launch) (Z : State) (a0 : Array Value) (hw : ∀ d ∈ tables_1, d.before a0 Z = true) (ws : List Jvm.Cond) (p1 : Int32) (w2 : Addr) (h0 : Heap) (n0 : Nat) (Z0 : n0 ≤ h0.size) (S_OCSP : Sta Z h0 "com/example/tresord/tresord/keymodule/CheckKeyKind" "OCSP" "Lcom/example/tresord/tresord/keymodule/CheckKeyKind;" (.ref w2)) (hc2 : ¬ (p1 = (1 : Int32))) (hc11 : ¬ (p1 = (2 : Int32))) :
    MetFree l (⟨"com/example/tresord/tresord/keymodule/CheckKeyKindFromCodePinLaw", "expected", "(I)Lcom/example/tresord/tresord/keymodule/CheckKeyKind;"⟩ : MethodName) (head1 (Jvm.Cond.code (⟨"com/example/tresord/tresord/keymodule/CheckKeyKindFromCodePinLaw", "expected", "(I)Lcom/example/tresord/tresord/keymodule/CheckKeyKind;"⟩ : MethodName) method_2_code 1 (some (.object "com/example/tresord/tresord/keymodule/CheckKeyKind")) :: ws) ({ frames := 0, cells := 0, slots := 0, locals := 0 } : Room)) (fun a U => a = #[(.int p1)] ∧ Z.Warmed39 U.vm ∧ U.heap = h0) (fun _ _ _ _ _ => True) (fun _ U o U' => ∃ v L, o = .returned v ∧ Q3_3 Z p1 w2 h0 n0 v U'.heap L ∧ FrameEnd U o U' L ({ frames := 0, cells := 0, slots := 0, locals := 0 } : Room).cells ({ frames := 0, cells := 0, slots := 0, locals := 0 } : Room).slots) := by
  refine MetFree.of_bodySF (plainFor_of_name pn_3) hisR ?_
  intro p e s m args below meth c s₁ Bd hml0 hP hK
  obtain ⟨rfl, hZ, hh⟩ := hP
  have hx := Bd.exec
  have hby := Bd.bytes
  have hml : c.maxLocals = 1 := hml0
  have hown : s.vm.findClass "com/example/tresord/tresord/keymodule/CheckKeyKindFromCodePinLaw" = some m.cls := findClass_of_methodNamed Bd.named
  have hnm := (name_of_methodNamed Bd.named Bd.method).1
  have X0 : Stand p l e ({ frames := 0, cells := 0, slots := 0, locals := 0 } : Room) s m #[(.int p1)] below meth c s₁ [] 0 0 := Stand.of_body Bd
  have e0 : s₁.heap = h0 := by rw [← hh, Bd.state]; rfl
  have N0 := Fr.nil n0
  have pre0 : ∀ t, Steps p.tables e below (s₁.setTop (mkF m 0 #[.val (.int p1)] [])) t → Steps p.tables e below (s₁.setTop (entryFrame m #[(.int p1)] 1)) t := fun t k => castTop (ef_3 m p1) k
  -- 3. LAWS
  obtain ⟨T3, X3, e3, st3⟩ := getS2 X0 hx hZ hown (host := "") (Or.inl (hw _ (List.mem_of_getElem? (i := 35) rfl))) Via.refl e0 S_OCSP (g := (mkF m 18 #[.val (.int p1)] [])) rfl (hb hby d3_18)
  obtain ⟨fs, hr, hrun, hended, hW, hsame⟩ := X3.leave (v := some (.ref w2)) (fun h => by rw [Bd.returns] at h; cases h)
  refine ⟨_, _, pre0 _ ?_, hrun, hended, _, _, rfl, ?_, ⟨_, rfl⟩, hW, hsame.mono (by decide) (by decide)⟩
  -- 4. STEPS
  · show Steps p.tables e below (s₁.setTop (mkF m 0 #[.val (.int p1)] [])) _
    refine XS.iloadN X0.here hx rfl (hb hby d3_0) rfl ?_
    show Steps p.tables e below (s₁.setTop (mkF m 1 #[.val (.int p1)] [(.int p1)])) _
    refine XS.iconst X0.here hx rfl (hb hby d3_1) ?_
    show Steps p.tables e below (s₁.setTop (mkF m 2 #[.val (.int p1)] [(.int (1 : Int32)), (.int p1)])) _
    refine XS.icmpYes X0.here hx rfl (pc0 := 2) (pc' := 9) rfl (hb hby d3_2) rfl (feq hc2).2 (by decide) (by decide) ?_
    show Steps p.tables e below (s₁.setTop (mkF m 9 #[.val (.int p1)] [])) _
    refine XS.iloadN X0.here hx rfl (hb hby d3_9) rfl ?_
    show Steps p.tables e below (s₁.setTop (mkF m 10 #[.val (.int p1)] [(.int p1)])) _
    refine XS.iconst X0.here hx rfl (hb hby d3_10) ?_
    show Steps p.tables e below (s₁.setTop (mkF m 11 #[.val (.int p1)] [(.int (2 : Int32)), (.int p1)])) _
    refine XS.icmpYes X0.here hx rfl (pc0 := 11) (pc' := 18) rfl (hb hby d3_11) rfl (feq hc11).2 (by decide) (by decide) ?_
    show Steps p.tables e below (s₁.setTop (mkF m 18 #[.val (.int p1)] [])) _
    refine st3 _ ?_
    show Steps p.tables e below (T3.setTop (mkF m 21 #[.val (.int p1)] [(.ref w2)])) _
    jvm_step X3.here [X3.here.top, hx, (hb hby d3_21), X3.method', Bd.returns, Value.isRef, FieldType.isReference]
    first | (intro acts; rw [hr _ acts rfl rfl rfl]) | rw [hr _ _ rfl rfl rfl]
    exact Steps.refl _
  · show Q3_3 Z p1 w2 h0 n0 _ T3.heap _
    rw [e3]
    exact ⟨rfl, N0, rfl⟩
theorem d4_0 : decode prog_6_method_5_code 0 = .ok (.aload_n 0, 1) := by decide +kernel
theorem d4_1 : decode prog_6_method_5_code 1 = .ok (.getfield 36, 3) := by decide +kernel
theorem d4_4 : decode prog_6_method_5_code 4 = .ok (.ireturn, 1) := by decide +kernel
theorem pn_4 : plainName "com/example/tresord/tresord/keymodule/CheckKeyKind" = true := by first | (simp [plainName, overriddenIn]; done) | decide +kernel
theorem ef_4 (m : MethodId) (x0 : Addr) : entryFrame m #[(.ref x0)] 1 = mkF m 0 #[.val (.ref x0)] [] := by first | (simp [entryFrame, mkF, argsToLocals, Value.category]; done) | rfl
def Q4_1 (Z : State) (a1 : Addr) (h0 : Heap) (n0 : Nat) (v : Option Value) (h : Heap) (L : List Loc) : Prop := v = some (.int (1 : Int32)) ∧ Fr n0 L ∧ h = h0
set_option maxRecDepth 65536 in
set_option maxHeartbeats 40000000 in
theorem rm4_1 (l : Launch) (Z : State) (a0 : Array Value) (hw : ∀ d ∈ tables_1, d.before a0 Z = true) (ws : List Jvm.Cond) (a1 : Addr) (h0 : Heap) (n0 : Nat) (Z0 : n0 ≤ h0.size) (F_code_a1 : Fld Z h0 a1 "com/example/tresord/tresord/keymodule/CheckKeyKind" "code" "B" (.int (1 : Int32))) :
    MetFree l (⟨"com/example/tresord/tresord/keymodule/CheckKeyKind", "code", "()B"⟩ : MethodName) (head1 (Jvm.Cond.code (⟨"com/example/tresord/tresord/keymodule/CheckKeyKind", "code", "()B"⟩ : MethodName) prog_6_method_5_code 1 (some .byte) :: ws) ({ frames := 0, cells := 0, slots := 0, locals := 0 } : Room)) (fun a U => a = #[(.ref a1)] ∧ Z.Warmed39 U.vm ∧ U.heap = h0) (fun _ _ _ _ _ => True) (fun _ U o U' => ∃ v L, o = .returned v ∧ Q4_1 Z a1 h0 n0 v U'.heap L ∧ FrameEnd U o U' L ({ frames := 0, cells := 0, slots := 0, locals := 0 } : Room).cells ({ frames := 0, cells := 0, slots := 0, locals := 0 } : Room).slots) := by
  refine MetFree.of_bodySF (plainFor_of_name pn_4) hisR ?_
  intro p e s m args below meth c s₁ Bd hml0 hP hK
  obtain ⟨rfl, hZ, hh⟩ := hP
  have hx := Bd.exec
  have hby := Bd.bytes
  have hml : c.maxLocals = 1 := hml0
  have hown : s.vm.findClass "com/example/tresord/tresord/keymodule/CheckKeyKind" = some m.cls := findClass_of_methodNamed Bd.named
  have hnm := (name_of_methodNamed Bd.named Bd.method).1
  have X0 : Stand p l e ({ frames := 0, cells := 0, slots := 0, locals := 0 } : Room) s m #[(.ref a1)] below meth c s₁ [] 0 0 := Stand.of_body Bd
  have e0 : s₁.heap = h0 := by rw [← hh, Bd.state]; rfl
  have N0 := Fr.nil n0
  have pre0 : ∀ t, Steps p.tables e below (s₁.setTop (mkF m 0 #[.val (.ref a1)] [])) t → Steps p.tables e below (s₁.setTop (entryFrame m #[(.ref a1)] 1)) t := fun t k => castTop (ef_4 m a1) k
  -- 3. LAWS
  obtain ⟨T3, X3, e3, st3⟩ := getF X0 hx hZ hown (host := "") (Or.inl (hw _ (List.mem_of_getElem? (i := 23) rfl))) Via.refl e0 F_code_a1 (g := (mkF m 1 #[.val (.ref a1)] [(.ref a1)])) rfl rfl (hb hby d4_1)
  obtain ⟨fs, hr, hrun, hended, hW, hsame⟩ := X3.leave (v := some (.int (1 : Int32))) (fun h => by rw [Bd.returns] at h; cases h)
  refine ⟨_, _, pre0 _ ?_, hrun, hended, _, _, rfl, ?_, ⟨_, rfl⟩, hW, hsame.mono (by decide) (by decide)⟩
  -- 4. STEPS
  · show Steps p.tables e below (s₁.setTop (mkF m 0 #[.val (.ref a1)] [])) _
    refine XS.aloadN X0.here hx rfl (hb hby d4_0) rfl rfl ?_
    show Steps p.tables e below (s₁.setTop (mkF m 1 #[.val (.ref a1)] [(.ref a1)])) _
    refine st3 _ ?_
    show Steps p.tables e below (T3.setTop (mkF m 4 #[.val (.ref a1)] [(.int (1 : Int32))])) _
    exact retN X3 hx (t := .byte) Bd.returns (by simp) (hb hby d4_4) hr
  · show Q4_1 Z a1 h0 n0 _ T3.heap _
    rw [e3]
    exact ⟨rfl, N0, rfl⟩
def Q4_2 (Z : State) (a1 : Addr) (h0 : Heap) (n0 : Nat) (v : Option Value) (h : Heap) (L : List Loc) : Prop := v = some (.int (2 : Int32)) ∧ Fr n0 L ∧ h = h0
set_option maxRecDepth 65536 in
set_option maxHeartbeats 40000000 in
theorem rm4_2 (l : Launch) (Z : State) (a0 : Array Value) (hw : ∀ d ∈ tables_1, d.before a0 Z = true) (ws : List Jvm.Cond) (a1 : Addr) (h0 : Heap) (n0 : Nat) (Z0 : n0 ≤ h0.size) (F_code_a1 : Fld Z h0 a1 "com/example/tresord/tresord/keymodule/CheckKeyKind" "code" "B" (.int (2 : Int32))) :
    MetFree l (⟨"com/example/tresord/tresord/keymodule/CheckKeyKind", "code", "()B"⟩ : MethodName) (head1 (Jvm.Cond.code (⟨"com/example/tresord/tresord/keymodule/CheckKeyKind", "code", "()B"⟩ : MethodName) prog_6_method_5_code 1 (some .byte) :: ws) ({ frames := 0, cells := 0, slots := 0, locals := 0 } : Room)) (fun a U => a = #[(.ref a1)] ∧ Z.Warmed39 U.vm ∧ U.heap = h0) (fun _ _ _ _ _ => True) (fun _ U o U' => ∃ v L, o = .returned v ∧ Q4_2 Z a1 h0 n0 v U'.heap L ∧ FrameEnd U o U' L ({ frames := 0, cells := 0, slots := 0, locals := 0 } : Room).cells ({ frames := 0, cells := 0, slots := 0, locals := 0 } : Room).slots) := by
  refine MetFree.of_bodySF (plainFor_of_name pn_4) hisR ?_
  intro p e s m args below meth c s₁ Bd hml0 hP hK
  obtain ⟨rfl, hZ, hh⟩ := hP
  have hx := Bd.exec
  have hby := Bd.bytes
  have hml : c.maxLocals = 1 := hml0
  have hown : s.vm.findClass "com/example/tresord/tresord/keymodule/CheckKeyKind" = some m.cls := findClass_of_methodNamed Bd.named
  have hnm := (name_of_methodNamed Bd.named Bd.method).1
  have X0 : Stand p l e ({ frames := 0, cells := 0, slots := 0, locals := 0 } : Room) s m #[(.ref a1)] below meth c s₁ [] 0 0 := Stand.of_body Bd
  have e0 : s₁.heap = h0 := by rw [← hh, Bd.state]; rfl
  have N0 := Fr.nil n0
  have pre0 : ∀ t, Steps p.tables e below (s₁.setTop (mkF m 0 #[.val (.ref a1)] [])) t → Steps p.tables e below (s₁.setTop (entryFrame m #[(.ref a1)] 1)) t := fun t k => castTop (ef_4 m a1) k
  -- 3. LAWS
  obtain ⟨T3, X3, e3, st3⟩ := getF X0 hx hZ hown (host := "") (Or.inl (hw _ (List.mem_of_getElem? (i := 23) rfl))) Via.refl e0 F_code_a1 (g := (mkF m 1 #[.val (.ref a1)] [(.ref a1)])) rfl rfl (hb hby d4_1)
  obtain ⟨fs, hr, hrun, hended, hW, hsame⟩ := X3.leave (v := some (.int (2 : Int32))) (fun h => by rw [Bd.returns] at h; cases h)
  refine ⟨_, _, pre0 _ ?_, hrun, hended, _, _, rfl, ?_, ⟨_, rfl⟩, hW, hsame.mono (by decide) (by decide)⟩
  -- 4. STEPS
  · show Steps p.tables e below (s₁.setTop (mkF m 0 #[.val (.ref a1)] [])) _
    refine XS.aloadN X0.here hx rfl (hb hby d4_0) rfl rfl ?_
    show Steps p.tables e below (s₁.setTop (mkF m 1 #[.val (.ref a1)] [(.ref a1)])) _
    refine st3 _ ?_
    show Steps p.tables e below (T3.setTop (mkF m 4 #[.val (.ref a1)] [(.int (2 : Int32))])) _
    exact retN X3 hx (t := .byte) Bd.returns (by simp) (hb hby d4_4) hr
  · show Q4_2 Z a1 h0 n0 _ T3.heap _
    rw [e3]
    exact ⟨rfl, N0, rfl⟩
def Q4_3 (Z : State) (a1 : Addr) (h0 : Heap) (n0 : Nat) (v : Option Value) (h : Heap) (L : List Loc) : Prop := v = some (.int (3 : Int32)) ∧ Fr n0 L ∧ h = h0
set_option maxRecDepth 65536 in
set_option maxHeartbeats 40000000 in
theorem rm4_3 (l : Launch) (Z : State) (a0 : Array Value) (hw : ∀ d ∈ tables_1, d.before a0 Z = true) (ws : List Jvm.Cond) (a1 : Addr) (h0 : Heap) (n0 : Nat) (Z0 : n0 ≤ h0.size) (F_code_a1 : Fld Z h0 a1 "com/example/tresord/tresord/keymodule/CheckKeyKind" "code" "B" (.int (3 : Int32))) :
    MetFree l (⟨"com/example/tresord/tresord/keymodule/CheckKeyKind", "code", "()B"⟩ : MethodName) (head1 (Jvm.Cond.code (⟨"com/example/tresord/tresord/keymodule/CheckKeyKind", "code", "()B"⟩ : MethodName) prog_6_method_5_code 1 (some .byte) :: ws) ({ frames := 0, cells := 0, slots := 0, locals := 0 } : Room)) (fun a U => a = #[(.ref a1)] ∧ Z.Warmed39 U.vm ∧ U.heap = h0) (fun _ _ _ _ _ => True) (fun _ U o U' => ∃ v L, o = .returned v ∧ Q4_3 Z a1 h0 n0 v U'.heap L ∧ FrameEnd U o U' L ({ frames := 0, cells := 0, slots := 0, locals := 0 } : Room).cells ({ frames := 0, cells := 0, slots := 0, locals := 0 } : Room).slots) := by
  refine MetFree.of_bodySF (plainFor_of_name pn_4) hisR ?_
  intro p e s m args below meth c s₁ Bd hml0 hP hK
  obtain ⟨rfl, hZ, hh⟩ := hP
  have hx := Bd.exec
  have hby := Bd.bytes
  have hml : c.maxLocals = 1 := hml0
  have hown : s.vm.findClass "com/example/tresord/tresord/keymodule/CheckKeyKind" = some m.cls := findClass_of_methodNamed Bd.named
  have hnm := (name_of_methodNamed Bd.named Bd.method).1
  have X0 : Stand p l e ({ frames := 0, cells := 0, slots := 0, locals := 0 } : Room) s m #[(.ref a1)] below meth c s₁ [] 0 0 := Stand.of_body Bd
  have e0 : s₁.heap = h0 := by rw [← hh, Bd.state]; rfl
  have N0 := Fr.nil n0
  have pre0 : ∀ t, Steps p.tables e below (s₁.setTop (mkF m 0 #[.val (.ref a1)] [])) t → Steps p.tables e below (s₁.setTop (entryFrame m #[(.ref a1)] 1)) t := fun t k => castTop (ef_4 m a1) k
  -- 3. LAWS
  obtain ⟨T3, X3, e3, st3⟩ := getF X0 hx hZ hown (host := "") (Or.inl (hw _ (List.mem_of_getElem? (i := 23) rfl))) Via.refl e0 F_code_a1 (g := (mkF m 1 #[.val (.ref a1)] [(.ref a1)])) rfl rfl (hb hby d4_1)
  obtain ⟨fs, hr, hrun, hended, hW, hsame⟩ := X3.leave (v := some (.int (3 : Int32))) (fun h => by rw [Bd.returns] at h; cases h)
  refine ⟨_, _, pre0 _ ?_, hrun, hended, _, _, rfl, ?_, ⟨_, rfl⟩, hW, hsame.mono (by decide) (by decide)⟩
  -- 4. STEPS
  · show Steps p.tables e below (s₁.setTop (mkF m 0 #[.val (.ref a1)] [])) _
    refine XS.aloadN X0.here hx rfl (hb hby d4_0) rfl rfl ?_
    show Steps p.tables e below (s₁.setTop (mkF m 1 #[.val (.ref a1)] [(.ref a1)])) _
    refine st3 _ ?_
    show Steps p.tables e below (T3.setTop (mkF m 4 #[.val (.ref a1)] [(.int (3 : Int32))])) _
    exact retN X3 hx (t := .byte) Bd.returns (by simp) (hb hby d4_4) hr
  · show Q4_3 Z a1 h0 n0 _ T3.heap _
    rw [e3]
    exact ⟨rfl, N0, rfl⟩
theorem own_eqInt {args : Array Value} {s : State} {t : Term} {k : Int32} (h : (Jvm.Cond.eq t (.int k)).value args s none s [] = some true) : t.eval args s none [] s = some (.int k) := by
  obtain ⟨x, y, e1, e2, -, k2⟩ := cmp_v (Or.inl h)
  cases e2
  obtain ⟨z, rfl⟩ := k2
  simp only [Cond.value, e1, Term.eval] at h
  simp at h
  rw [e1, h]
theorem own_len {args : Array Value} {s : State} {t : Term} {a : Addr} {cl : Cell} {k : Int32} (h : (Term.length t).eval args s none [] s = some (.int k)) (ev : t.eval args s none [] s = some (.ref a)) (ha : s.arrayAt? a = some cl) : cl.slots.size < 2 ^ 31 ∧ cl.slots.size.toInt32 = k := by
  by_cases q : cl.slots.size < 2 ^ 31
  · rw [len_f ev ha q] at h
    exact ⟨q, by simpa using h⟩
  · simp [Term.eval, ev, ha, q] at h
theorem own_eqRef {args : Array Value} {s : State} {a b : Term} {y : Addr} (h : (Jvm.Cond.eq a b).value args s none s [] = some true) (hb : b.eval args s none [] s = some (.ref y)) : a.eval args s none [] s = some (.ref y) := by
  obtain ⟨u, w, e1, e2, -, k2⟩ := cmp_v (Or.inl h)
  cases e2.symm.trans hb
  obtain ⟨-, k3⟩ := k2
  rw [e1, gotT (eq_R e1 e2 k3 rfl) h]
def own_c (x : Int32) : Int32 := ((x &&& (2147483647 : Int32)) - ((x &&& (2147483647 : Int32)) / (3 : Int32)) * (3 : Int32)) + (1 : Int32)
theorem own_c_range (x : Int32) : own_c x = 1 ∨ own_c x = 2 ∨ own_c x = 3 := by
  have m := c_mask x (2147483647 : Int32) 31 (by decide) (by decide)
  have r := (c_irem (x &&& (2147483647 : Int32)) (3 : Int32) 3 (by decide)).1
  have a := c_iadd ((x &&& (2147483647 : Int32)) % (3 : Int32)) (1 : Int32)
  have o : (1 : Int32).toInt = 1 := by decide
  have g := rng32 ((x &&& (2147483647 : Int32)) % (3 : Int32) + (1 : Int32))
  have e : own_c x = (x &&& (2147483647 : Int32)) % (3 : Int32) + (1 : Int32) := by unfold own_c; rw [irem_eq_mod]
  rw [e]
  have q1 : (1 : Int32).toInt = 1 := by decide
  have q2 : (2 : Int32).toInt = 2 := by decide
  have q3 : (3 : Int32).toInt = 3 := by decide
  rw [← Int32.toInt_inj, ← Int32.toInt_inj, ← Int32.toInt_inj, q1, q2, q3]
  omega
theorem pn_0 : plainName "com/example/tresord/tresord/keymodule/CheckKeyKindFromCodePinLaw" = true := by first | (simp [plainName, overriddenIn]; done) | decide +kernel
theorem pd_0_0 : parseMethodDescriptor "(B)Lcom/example/tresord/tresord/keymodule/CheckKeyKind;" = some ⟨[.byte], some (.object "com/example/tresord/tresord/keymodule/CheckKeyKind")⟩ := by decide +kernel
theorem pd_0_3 : parseMethodDescriptor "(I)Lcom/example/tresord/tresord/keymodule/CheckKeyKind;" = some ⟨[.int], some (.object "com/example/tresord/tresord/keymodule/CheckKeyKind")⟩ := by decide +kernel
theorem pd_0_4 : parseMethodDescriptor "()B" = some ⟨[], some .byte⟩ := by decide +kernel
theorem ef_0 (m : MethodId) (x0 : Int32) : entryFrame m #[(.int x0)] maxLocals = mkF m 0 #[.val (.int x0), .unset, .unset, .unset] [] := by first | (simp [entryFrame, mkF, argsToLocals, Value.category, maxLocals]; done) | rfl
def Q0_1 (Z : State) (p1 : Int32) (h0 : Heap) (n0 : Nat) (v : Option Value) (h : Heap) (L : List Loc) : Prop := v = some (.int (1 : Int32)) ∧ Fr n0 L
set_option maxRecDepth 65536 in
set_option maxHeartbeats 40000000 in
theorem rm0_1 (l : Launch) (Z : State) (a0 : Array Value) (hw : ∀ d ∈ tables_1, d.before a0 Z = true) (ws : List Jvm.Cond) (p1 : Int32) (wv : Addr) (cl : Cell) (w0 : Addr) (h0 : Heap) (n0 : Nat) (Z0 : n0 ≤ h0.size) (S_v : Sta Z h0 "com/example/tresord/tresord/keymodule/CheckKeyKind" "$VALUES" "[Lcom/example/tresord/tresord/keymodule/CheckKeyKind;" (.ref wv)) (E_v : Exa Z h0 wv "[Lcom/example/tresord/tresord/keymodule/CheckKeyKind;") (Ar_v : Arr Z h0 wv cl (.object "com/example/tresord/tresord/keymodule/CheckKeyKind")) (FC : FitC Z cl) (hsz : cl.slots.size = 3) (hin0 : ¬ ((0 : Int32) < 0 ∨ cl.slots.size ≤ ((0 : Int32)).toNatClampNeg)) (hat0 : cl.slots[((0 : Int32)).toNatClampNeg]? = some (.ref w0)) (F_0 : Fld Z h0 w0 "com/example/tresord/tresord/keymodule/CheckKeyKind" "code" "B" (.int (1 : Int32))) (S_k : Sta Z h0 "com/example/tresord/tresord/keymodule/CheckKeyKind" "ROOT" "Lcom/example/tresord/tresord/keymodule/CheckKeyKind;" (.ref w0)) (E_k : Exa Z h0 w0 "com/example/tresord/tresord/keymodule/CheckKeyKind") (hk : own_c p1 = (1 : Int32)) :
    MetFree l x (head1 (Jvm.Cond.code x code maxLocals ret :: ws) room_1) (fun a U => a = #[(.int p1)] ∧ Z.Warmed39 U.vm ∧ U.heap = h0) (fun _ _ _ _ _ => True) (fun _ U o U' => ∃ v L, o = .returned v ∧ Q0_1 Z p1 h0 n0 v U'.heap L ∧ FrameEnd U o U' L room_1.cells room_1.slots) := by
  refine MetFree.of_bodySF (plainFor_of_name pn_0) hisR ?_
  intro p e s m args below meth c s₁ Bd hml0 hP hK
  obtain ⟨rfl, hZ, hh⟩ := hP
  have hx := Bd.exec
  have hby := Bd.bytes
  have hml : c.maxLocals = 4 := hml0
  have hown : s.vm.findClass "com/example/tresord/tresord/keymodule/CheckKeyKindFromCodePinLaw" = some m.cls := findClass_of_methodNamed Bd.named
  have hnm := (name_of_methodNamed Bd.named Bd.method).1
  have X0 : Stand p l e room_1 s m #[(.int p1)] below meth c s₁ [] 0 0 := Stand.of_body Bd
  have e0 : s₁.heap = h0 := by rw [← hh, Bd.state]; rfl
  have N0 := Fr.nil n0
  have pre0 : ∀ t, Steps p.tables e below (s₁.setTop (mkF m 0 #[.val (.int p1), .unset, .unset, .unset] [])) t → Steps p.tables e below (s₁.setTop (entryFrame m #[(.int p1)] maxLocals)) t := fun t k => castTop (ef_0 m p1) k
  -- 3. LAWS
  -- pc 13: com/example/tresord/tresord/keymodule/CheckKeyKind.fromCode by its contract rm1
  obtain ⟨_, _, ⟨T2, L2, k2, n2⟩, -, X2, ⟨Lc2, hQ2, l2, y2, z2⟩, st2⟩ := Jvm.LawKit.callS X0 hx (y := (⟨"com/example/tresord/tresord/keymodule/CheckKeyKind", "fromCode", "(B)Lcom/example/tresord/tresord/keymodule/CheckKeyKind;"⟩ : MethodName)) hown (mvT hZ (hw _ (List.mem_of_getElem? (i := 1) rfl))) (mvT hZ (hw _ (List.mem_of_getElem? (i := 2) rfl))) (mvT hZ (hw _ (List.mem_of_getElem? (i := 3) rfl))) (mvT hZ (hw _ (List.mem_of_getElem? (i := 4) rfl))) (by decide) (backOf (W := 0) (rm1_1 l Z a0 hw [] (1 : Int32) wv cl w0 h0 n0 Z0 S_v E_v Ar_v FC hsz hin0 hat0 F_0  rfl) hZ (hw _ (List.mem_of_getElem? (i := 4) rfl)) (hw _ (List.mem_of_getElem? (i := 3) rfl)) (by decide) (by decide)) (g := (mkF m 13 #[.val (.int p1), .val (.int (1 : Int32)), .val (.int (1 : Int32)), .unset] [(.int (1 : Int32))])) rfl (by rw [hml]; rfl) (argsL := [(.int (1 : Int32))]) (rest := []) (lenOf pd_0_0 rfl) rfl (by show 2 * 0 + _ ≤ _; exact Nat.le_of_eq rfl) (hb hby at_13) (fun _ _ => ⟨rfl, e0, (by decide : 0 + 1 ≤ _), (by decide : 0 + 3 ≤ _)⟩)
  dsimp only [Pt.U, Pt.locs, Pt.cells, Pt.slots] at X2 l2 y2 z2 st2 hQ2
  subst l2 y2 z2
  obtain ⟨rfl, N2q, x2⟩ := hQ2      -- what it returned, that it wrote nothing old, and the rest of your Q1
  have N2 := Fr.app N0 N2q
  -- pc 19: com/example/tresord/tresord/keymodule/CheckKeyKindFromCodePinLaw.expected by its contract rm3
  obtain ⟨_, _, ⟨T3, L3, k3, n3⟩, -, X3, ⟨Lc3, hQ3, l3, y3, z3⟩, st3⟩ := Jvm.LawKit.callS X2 hx (y := (⟨"com/example/tresord/tresord/keymodule/CheckKeyKindFromCodePinLaw", "expected", "(I)Lcom/example/tresord/tresord/keymodule/CheckKeyKind;"⟩ : MethodName)) hown (mvT hZ (hw _ (List.mem_of_getElem? (i := 25) rfl))) (mvT hZ (hw _ (List.mem_of_getElem? (i := 26) rfl))) (mvT hZ (hw _ (List.mem_of_getElem? (i := 27) rfl))) (mvT hZ (hw _ (List.mem_of_getElem? (i := 28) rfl))) (by decide) (backOf (W := 1) (rm3_1 l Z a0 hw [] (1 : Int32) w0 T2.heap n0 (Nat.le_trans Z0 x2.1) (S_k.ext x2) rfl) hZ (hw _ (List.mem_of_getElem? (i := 28) rfl)) (hw _ (List.mem_of_getElem? (i := 27) rfl)) (by decide) (by decide)) (g := (mkF m 19 #[.val (.int p1), .val (.int (1 : Int32)), .val (.int (1 : Int32)), .val (.ref w0)] [(.int (1 : Int32)), (.ref w0)])) rfl (by rw [hml]; rfl) (argsL := [(.int (1 : Int32))]) (rest := [(.ref w0)]) (lenOf pd_0_3 rfl) rfl (by show 2 * 0 + _ ≤ _; exact Nat.le_of_eq rfl) (hb hby at_19) (fun _ _ => ⟨rfl, rfl, (by decide : 1 + 0 ≤ _), (by decide : 3 + 0 ≤ _)⟩)
  dsimp only [Pt.U, Pt.locs, Pt.cells, Pt.slots] at X3 l3 y3 z3 st3 hQ3
  subst l3 y3 z3
  obtain ⟨rfl, N3q, e3q⟩ := hQ3      -- what it returned, that it wrote nothing old, and the rest of your Q3
  have N3 := Fr.app N2 N3q
  -- pc 26: com/example/tresord/tresord/keymodule/CheckKeyKind.code by the contract of the body that the receiver's class selects, rm4
  obtain ⟨cq4, kq4, q4a, q4b, q4c⟩ := isOf hZ e3q (E_k.ext x2)
  obtain ⟨_, _, ⟨T4, L4, k4, n4⟩, -, X4, ⟨Lc4, hQ4, l4, y4, z4⟩, st4⟩ := X3.virtualBack hx (y := (⟨"com/example/tresord/tresord/keymodule/CheckKeyKind", "code", "()B"⟩ : MethodName)) (z := (⟨"com/example/tresord/tresord/keymodule/CheckKeyKind", "code", "()B"⟩ : MethodName)) hown (mvT hZ (hw _ (List.mem_of_getElem? (i := 30) rfl))) (mvT hZ (hw _ (List.mem_of_getElem? (i := 31) rfl))) (notFace_of_selects (args := #[]) (mvT hZ (hw _ (List.mem_of_getElem? (i := 33) rfl)))) (mvT hZ (hw _ (List.mem_of_getElem? (i := 33) rfl))) (mvT hZ (hw _ (List.mem_of_getElem? (i := 32) rfl))) (by decide) (backOf (W := 0) (rm4_1 l Z a0 hw [] w0 T2.heap n0 (Nat.le_trans Z0 x2.1) (F_0.ext x2)) hZ (hw _ (List.mem_of_getElem? (i := 34) rfl)) (hw _ (List.mem_of_getElem? (i := 3) rfl)) (by decide) (by decide)) q4a q4c (g := (mkF m 26 #[.val (.int p1), .val (.int (1 : Int32)), .val (.int (1 : Int32)), .val (.ref w0)] [(.ref w0)])) rfl (by rw [hml]; rfl) (Steps.refl _) (argsL := []) (rest := []) (lenOf pd_0_4 rfl) rfl (by show 2 * 0 + _ ≤ _; exact Nat.le_of_eq rfl) (hb hby at_26) (fun _ _ => ⟨rfl, e3q, (by decide : 1 + 0 ≤ _), (by decide : 3 + 0 ≤ _)⟩)
  dsimp only [Pt.U, Pt.locs, Pt.cells, Pt.slots] at X4 l4 y4 z4 st4 hQ4
  subst l4 y4 z4
  obtain ⟨rfl, N4q, e4q⟩ := hQ4      -- what it returned, that it wrote nothing old, and the rest of your Q4
  have N4 := Fr.app N3 N4q
  obtain ⟨fs, hr, hrun, hended, hW, hsame⟩ := X4.leave (v := some (.int (1 : Int32))) (fun h => by rw [Bd.returns] at h; cases h)
  refine ⟨_, _, pre0 _ ?_, hrun, hended, _, _, rfl, ?_, ⟨_, rfl⟩, hW, hsame.mono (by decide) (by decide)⟩
  -- 4. STEPS
  · show Steps p.tables e below (s₁.setTop (mkF m 0 #[.val (.int p1), .unset, .unset, .unset] [])) _
    refine XS.iloadN X0.here hx rfl (hb hby at_0) rfl ?_
    show Steps p.tables e below (s₁.setTop (mkF m 1 #[.val (.int p1), .unset, .unset, .unset] [(.int p1)])) _
    refine X0.ldcInt hx hown (mvT hZ (hw _ (List.mem_of_getElem? (i := 0) rfl))) (g := (mkF m 1 #[.val (.int p1), .unset, .unset, .unset] [(.int p1)])) rfl (hb hby at_1) _ ?_
    show Steps p.tables e below (s₁.setTop (mkF m 3 #[.val (.int p1), .unset, .unset, .unset] [(.int (2147483647 : Int32)), (.int p1)])) _
    refine XS.iand X0.here hx rfl (hb hby at_3) rfl ?_
    show Steps p.tables e below (s₁.setTop (mkF m 4 #[.val (.int p1), .unset, .unset, .unset] [(.int (p1 &&& (2147483647 : Int32)))])) _
    refine XS.iconst X0.here hx rfl (hb hby at_4) ?_
    show Steps p.tables e below (s₁.setTop (mkF m 5 #[.val (.int p1), .unset, .unset, .unset] [(.int (3 : Int32)), (.int (p1 &&& (2147483647 : Int32)))])) _
    refine XS.irem X0.here hx rfl (hb hby at_5) rfl (by decide) ?_
    show Steps p.tables e below (s₁.setTop (mkF m 6 #[.val (.int p1), .unset, .unset, .unset] [(.int ((p1 &&& (2147483647 : Int32)) - ((p1 &&& (2147483647 : Int32)) / (3 : Int32)) * (3 : Int32)))])) _
    refine XS.iconst X0.here hx rfl (hb hby at_6) ?_
    show Steps p.tables e below (s₁.setTop (mkF m 7 #[.val (.int p1), .unset, .unset, .unset] [(.int (1 : Int32)), (.int ((p1 &&& (2147483647 : Int32)) - ((p1 &&& (2147483647 : Int32)) / (3 : Int32)) * (3 : Int32)))])) _
    refine XS.iadd X0.here hx rfl (hb hby at_7) rfl ?_
    show Steps p.tables e below (s₁.setTop (mkF m 8 #[.val (.int p1), .unset, .unset, .unset] [(.int (own_c p1))])) _
    rw [hk]
    refine XS.istoreN X0.here hx rfl (hb hby at_8) rfl (l' := #[.val (.int p1), .val (.int (1 : Int32)), .unset, .unset]) rfl ?_
    show Steps p.tables e below (s₁.setTop (mkF m 9 #[.val (.int p1), .val (.int (1 : Int32)), .unset, .unset] [])) _
    refine XS.iloadN X0.here hx rfl (hb hby at_9) rfl ?_
    show Steps p.tables e below (s₁.setTop (mkF m 10 #[.val (.int p1), .val (.int (1 : Int32)), .unset, .unset] [(.int (1 : Int32))])) _
    refine XS.i2b X0.here hx rfl (hb hby at_10) rfl ?_
    show Steps p.tables e below (s₁.setTop (mkF m 11 #[.val (.int p1), .val (.int (1 : Int32)), .unset, .unset] [(.int (1 : Int32))])) _
    refine XS.istoreN X0.here hx rfl (hb hby at_11) rfl (l' := #[.val (.int p1), .val (.int (1 : Int32)), .val (.int (1 : Int32)), .unset]) rfl ?_
    show Steps p.tables e below (s₁.setTop (mkF m 12 #[.val (.int p1), .val (.int (1 : Int32)), .val (.int (1 : Int32)), .unset] [])) _
    refine XS.iloadN X0.here hx rfl (hb hby at_12) rfl ?_
    show Steps p.tables e below (s₁.setTop (mkF m 13 #[.val (.int p1), .val (.int (1 : Int32)), .val (.int (1 : Int32)), .unset] [(.int (1 : Int32))])) _
    refine st2 _ ?_
    show Steps p.tables e below (T2.setTop (mkF m 16 #[.val (.int p1), .val (.int (1 : Int32)), .val (.int (1 : Int32)), .unset] [(.ref w0)])) _
    refine XS.astoreN X2.here hx rfl (hb hby at_16) rfl rfl (l' := #[.val (.int p1), .val (.int (1 : Int32)), .val (.int (1 : Int32)), .val (.ref w0)]) rfl ?_
    show Steps p.tables e below (T2.setTop (mkF m 17 #[.val (.int p1), .val (.int (1 : Int32)), .val (.int (1 : Int32)), .val (.ref w0)] [])) _
    refine XS.aloadN X2.here hx rfl (hb hby at_17) rfl rfl ?_
    show Steps p.tables e below (T2.setTop (mkF m 18 #[.val (.int p1), .val (.int (1 : Int32)), .val (.int (1 : Int32)), .val (.ref w0)] [(.ref w0)])) _
    refine XS.iloadN X2.here hx rfl (hb hby at_18) rfl ?_
    show Steps p.tables e below (T2.setTop (mkF m 19 #[.val (.int p1), .val (.int (1 : Int32)), .val (.int (1 : Int32)), .val (.ref w0)] [(.int (1 : Int32)), (.ref w0)])) _
    refine st3 _ ?_
    show Steps p.tables e below (T3.setTop (mkF m 22 #[.val (.int p1), .val (.int (1 : Int32)), .val (.int (1 : Int32)), .val (.ref w0)] [(.ref w0), (.ref w0)])) _
    refine Jvm.RoadKit.acmp (g := (mkF m 22 #[.val (.int p1), .val (.int (1 : Int32)), .val (.int (1 : Int32)), .val (.ref w0)] [(.ref w0), (.ref w0)])) X3 hx rfl rfl rfl (pc0 := 22) (pc' := 25) (same := true) rfl (hb hby at_22) rfl (decide_eq_true rfl) (by decide) (by decide) ?_
    show Steps p.tables e below (T3.setTop (mkF m 25 #[.val (.int p1), .val (.int (1 : Int32)), .val (.int (1 : Int32)), .val (.ref w0)] [])) _
    refine XS.aloadN X3.here hx rfl (hb hby at_25) rfl rfl ?_
    show Steps p.tables e below (T3.setTop (mkF m 26 #[.val (.int p1), .val (.int (1 : Int32)), .val (.int (1 : Int32)), .val (.ref w0)] [(.ref w0)])) _
    refine st4.trans ?_
    show Steps p.tables e below (T4.setTop (mkF m 29 #[.val (.int p1), .val (.int (1 : Int32)), .val (.int (1 : Int32)), .val (.ref w0)] [(.int (1 : Int32))])) _
    refine XS.iloadN X4.here hx rfl (hb hby at_29) rfl ?_
    show Steps p.tables e below (T4.setTop (mkF m 30 #[.val (.int p1), .val (.int (1 : Int32)), .val (.int (1 : Int32)), .val (.ref w0)] [(.int (1 : Int32)), (.int (1 : Int32))])) _
    refine XS.icmpNo X4.here hx rfl (hb hby at_30) rfl (teq (rfl : (1 : Int32) = (1 : Int32))).2 ?_
    show Steps p.tables e below (T4.setTop (mkF m 33 #[.val (.int p1), .val (.int (1 : Int32)), .val (.int (1 : Int32)), .val (.ref w0)] [])) _
    refine XS.iconst X4.here hx rfl (hb hby at_33) ?_
    show Steps p.tables e below (T4.setTop (mkF m 34 #[.val (.int p1), .val (.int (1 : Int32)), .val (.int (1 : Int32)), .val (.ref w0)] [(.int (1 : Int32))])) _
    refine XS.goto X4.here hx rfl (pc0 := 34) (pc' := 38) rfl (hb hby at_34) (by decide) (by decide) ?_
    show Steps p.tables e below (T4.setTop (mkF m 38 #[.val (.int p1), .val (.int (1 : Int32)), .val (.int (1 : Int32)), .val (.ref w0)] [(.int (1 : Int32))])) _
    exact retN X4 hx (t := .boolean) Bd.returns (by simp) (hb hby at_38) hr
  · show Q0_1 Z p1 h0 n0 _ T4.heap _
    exact ⟨rfl, N4⟩
def Q0_2 (Z : State) (p1 : Int32) (h0 : Heap) (n0 : Nat) (v : Option Value) (h : Heap) (L : List Loc) : Prop := v = some (.int (1 : Int32)) ∧ Fr n0 L
set_option maxRecDepth 65536 in
set_option maxHeartbeats 40000000 in
theorem rm0_2 (l : Launch) (Z : State) (a0 : Array Value) (hw : ∀ d ∈ tables_1, d.before a0 Z = true) (ws : List Jvm.Cond) (p1 : Int32) (wv : Addr) (cl : Cell) (w0 : Addr) (w1 : Addr) (h0 : Heap) (n0 : Nat) (Z0 : n0 ≤ h0.size) (S_v : Sta Z h0 "com/example/tresord/tresord/keymodule/CheckKeyKind" "$VALUES" "[Lcom/example/tresord/tresord/keymodule/CheckKeyKind;" (.ref wv)) (E_v : Exa Z h0 wv "[Lcom/example/tresord/tresord/keymodule/CheckKeyKind;") (Ar_v : Arr Z h0 wv cl (.object "com/example/tresord/tresord/keymodule/CheckKeyKind")) (FC : FitC Z cl) (hsz : cl.slots.size = 3) (hin0 : ¬ ((0 : Int32) < 0 ∨ cl.slots.size ≤ ((0 : Int32)).toNatClampNeg)) (hat0 : cl.slots[((0 : Int32)).toNatClampNeg]? = some (.ref w0)) (hin1 : ¬ ((1 : Int32) < 0 ∨ cl.slots.size ≤ ((1 : Int32)).toNatClampNeg)) (hat1 : cl.slots[((1 : Int32)).toNatClampNeg]? = some (.ref w1)) (F_0 : Fld Z h0 w0 "com/example/tresord/tresord/keymodule/CheckKeyKind" "code" "B" (.int (1 : Int32))) (F_1 : Fld Z h0 w1 "com/example/tresord/tresord/keymodule/CheckKeyKind" "code" "B" (.int (2 : Int32))) (S_k : Sta Z h0 "com/example/tresord/tresord/keymodule/CheckKeyKind" "CA" "Lcom/example/tresord/tresord/keymodule/CheckKeyKind;" (.ref w1)) (E_k : Exa Z h0 w1 "com/example/tresord/tresord/keymodule/CheckKeyKind") (hk : own_c p1 = (2 : Int32)) :
    MetFree l x (head1 (Jvm.Cond.code x code maxLocals ret :: ws) room_1) (fun a U => a = #[(.int p1)] ∧ Z.Warmed39 U.vm ∧ U.heap = h0) (fun _ _ _ _ _ => True) (fun _ U o U' => ∃ v L, o = .returned v ∧ Q0_2 Z p1 h0 n0 v U'.heap L ∧ FrameEnd U o U' L room_1.cells room_1.slots) := by
  refine MetFree.of_bodySF (plainFor_of_name pn_0) hisR ?_
  intro p e s m args below meth c s₁ Bd hml0 hP hK
  obtain ⟨rfl, hZ, hh⟩ := hP
  have hx := Bd.exec
  have hby := Bd.bytes
  have hml : c.maxLocals = 4 := hml0
  have hown : s.vm.findClass "com/example/tresord/tresord/keymodule/CheckKeyKindFromCodePinLaw" = some m.cls := findClass_of_methodNamed Bd.named
  have hnm := (name_of_methodNamed Bd.named Bd.method).1
  have X0 : Stand p l e room_1 s m #[(.int p1)] below meth c s₁ [] 0 0 := Stand.of_body Bd
  have e0 : s₁.heap = h0 := by rw [← hh, Bd.state]; rfl
  have N0 := Fr.nil n0
  have pre0 : ∀ t, Steps p.tables e below (s₁.setTop (mkF m 0 #[.val (.int p1), .unset, .unset, .unset] [])) t → Steps p.tables e below (s₁.setTop (entryFrame m #[(.int p1)] maxLocals)) t := fun t k => castTop (ef_0 m p1) k
  -- 3. LAWS
  -- pc 13: com/example/tresord/tresord/keymodule/CheckKeyKind.fromCode by its contract rm1
  obtain ⟨_, _, ⟨T2, L2, k2, n2⟩, -, X2, ⟨Lc2, hQ2, l2, y2, z2⟩, st2⟩ := Jvm.LawKit.callS X0 hx (y := (⟨"com/example/tresord/tresord/keymodule/CheckKeyKind", "fromCode", "(B)Lcom/example/tresord/tresord/keymodule/CheckKeyKind;"⟩ : MethodName)) hown (mvT hZ (hw _ (List.mem_of_getElem? (i := 1) rfl))) (mvT hZ (hw _ (List.mem_of_getElem? (i := 2) rfl))) (mvT hZ (hw _ (List.mem_of_getElem? (i := 3) rfl))) (mvT hZ (hw _ (List.mem_of_getElem? (i := 4) rfl))) (by decide) (backOf (W := 0) (rm1_2 l Z a0 hw [] (2 : Int32) wv cl w0 w1 h0 n0 Z0 S_v E_v Ar_v FC hsz hin0 hat0 hin1 hat1 F_0 F_1 (by decide) rfl) hZ (hw _ (List.mem_of_getElem? (i := 4) rfl)) (hw _ (List.mem_of_getElem? (i := 3) rfl)) (by decide) (by decide)) (g := (mkF m 13 #[.val (.int p1), .val (.int (2 : Int32)), .val (.int (2 : Int32)), .unset] [(.int (2 : Int32))])) rfl (by rw [hml]; rfl) (argsL := [(.int (2 : Int32))]) (rest := []) (lenOf pd_0_0 rfl) rfl (by show 2 * 0 + _ ≤ _; exact Nat.le_of_eq rfl) (hb hby at_13) (fun _ _ => ⟨rfl, e0, (by decide : 0 + 1 ≤ _), (by decide : 0 + 3 ≤ _)⟩)
  dsimp only [Pt.U, Pt.locs, Pt.cells, Pt.slots] at X2 l2 y2 z2 st2 hQ2
  subst l2 y2 z2
  obtain ⟨rfl, N2q, x2⟩ := hQ2      -- what it returned, that it wrote nothing old, and the rest of your Q1
  have N2 := Fr.app N0 N2q
  -- pc 19: com/example/tresord/tresord/keymodule/CheckKeyKindFromCodePinLaw.expected by its contract rm3
  obtain ⟨_, _, ⟨T3, L3, k3, n3⟩, -, X3, ⟨Lc3, hQ3, l3, y3, z3⟩, st3⟩ := Jvm.LawKit.callS X2 hx (y := (⟨"com/example/tresord/tresord/keymodule/CheckKeyKindFromCodePinLaw", "expected", "(I)Lcom/example/tresord/tresord/keymodule/CheckKeyKind;"⟩ : MethodName)) hown (mvT hZ (hw _ (List.mem_of_getElem? (i := 25) rfl))) (mvT hZ (hw _ (List.mem_of_getElem? (i := 26) rfl))) (mvT hZ (hw _ (List.mem_of_getElem? (i := 27) rfl))) (mvT hZ (hw _ (List.mem_of_getElem? (i := 28) rfl))) (by decide) (backOf (W := 1) (rm3_2 l Z a0 hw [] (2 : Int32) w1 T2.heap n0 (Nat.le_trans Z0 x2.1) (S_k.ext x2) (by decide) rfl) hZ (hw _ (List.mem_of_getElem? (i := 28) rfl)) (hw _ (List.mem_of_getElem? (i := 27) rfl)) (by decide) (by decide)) (g := (mkF m 19 #[.val (.int p1), .val (.int (2 : Int32)), .val (.int (2 : Int32)), .val (.ref w1)] [(.int (2 : Int32)), (.ref w1)])) rfl (by rw [hml]; rfl) (argsL := [(.int (2 : Int32))]) (rest := [(.ref w1)]) (lenOf pd_0_3 rfl) rfl (by show 2 * 0 + _ ≤ _; exact Nat.le_of_eq rfl) (hb hby at_19) (fun _ _ => ⟨rfl, rfl, (by decide : 1 + 0 ≤ _), (by decide : 3 + 0 ≤ _)⟩)
  dsimp only [Pt.U, Pt.locs, Pt.cells, Pt.slots] at X3 l3 y3 z3 st3 hQ3
  subst l3 y3 z3
  obtain ⟨rfl, N3q, e3q⟩ := hQ3      -- what it returned, that it wrote nothing old, and the rest of your Q3
  have N3 := Fr.app N2 N3q
  -- pc 26: com/example/tresord/tresord/keymodule/CheckKeyKind.code by the contract of the body that the receiver's class selects, rm4
  obtain ⟨cq4, kq4, q4a, q4b, q4c⟩ := isOf hZ e3q (E_k.ext x2)
  obtain ⟨_, _, ⟨T4, L4, k4, n4⟩, -, X4, ⟨Lc4, hQ4, l4, y4, z4⟩, st4⟩ := X3.virtualBack hx (y := (⟨"com/example/tresord/tresord/keymodule/CheckKeyKind", "code", "()B"⟩ : MethodName)) (z := (⟨"com/example/tresord/tresord/keymodule/CheckKeyKind", "code", "()B"⟩ : MethodName)) hown (mvT hZ (hw _ (List.mem_of_getElem? (i := 30) rfl))) (mvT hZ (hw _ (List.mem_of_getElem? (i := 31) rfl))) (notFace_of_selects (args := #[]) (mvT hZ (hw _ (List.mem_of_getElem? (i := 33) rfl)))) (mvT hZ (hw _ (List.mem_of_getElem? (i := 33) rfl))) (mvT hZ (hw _ (List.mem_of_getElem? (i := 32) rfl))) (by decide) (backOf (W := 0) (rm4_2 l Z a0 hw [] w1 T2.heap n0 (Nat.le_trans Z0 x2.1) (F_1.ext x2)) hZ (hw _ (List.mem_of_getElem? (i := 34) rfl)) (hw _ (List.mem_of_getElem? (i := 3) rfl)) (by decide) (by decide)) q4a q4c (g := (mkF m 26 #[.val (.int p1), .val (.int (2 : Int32)), .val (.int (2 : Int32)), .val (.ref w1)] [(.ref w1)])) rfl (by rw [hml]; rfl) (Steps.refl _) (argsL := []) (rest := []) (lenOf pd_0_4 rfl) rfl (by show 2 * 0 + _ ≤ _; exact Nat.le_of_eq rfl) (hb hby at_26) (fun _ _ => ⟨rfl, e3q, (by decide : 1 + 0 ≤ _), (by decide : 3 + 0 ≤ _)⟩)
  dsimp only [Pt.U, Pt.locs, Pt.cells, Pt.slots] at X4 l4 y4 z4 st4 hQ4
  subst l4 y4 z4
  obtain ⟨rfl, N4q, e4q⟩ := hQ4      -- what it returned, that it wrote nothing old, and the rest of your Q4
  have N4 := Fr.app N3 N4q
  obtain ⟨fs, hr, hrun, hended, hW, hsame⟩ := X4.leave (v := some (.int (1 : Int32))) (fun h => by rw [Bd.returns] at h; cases h)
  refine ⟨_, _, pre0 _ ?_, hrun, hended, _, _, rfl, ?_, ⟨_, rfl⟩, hW, hsame.mono (by decide) (by decide)⟩
  -- 4. STEPS
  · show Steps p.tables e below (s₁.setTop (mkF m 0 #[.val (.int p1), .unset, .unset, .unset] [])) _
    refine XS.iloadN X0.here hx rfl (hb hby at_0) rfl ?_
    show Steps p.tables e below (s₁.setTop (mkF m 1 #[.val (.int p1), .unset, .unset, .unset] [(.int p1)])) _
    refine X0.ldcInt hx hown (mvT hZ (hw _ (List.mem_of_getElem? (i := 0) rfl))) (g := (mkF m 1 #[.val (.int p1), .unset, .unset, .unset] [(.int p1)])) rfl (hb hby at_1) _ ?_
    show Steps p.tables e below (s₁.setTop (mkF m 3 #[.val (.int p1), .unset, .unset, .unset] [(.int (2147483647 : Int32)), (.int p1)])) _
    refine XS.iand X0.here hx rfl (hb hby at_3) rfl ?_
    show Steps p.tables e below (s₁.setTop (mkF m 4 #[.val (.int p1), .unset, .unset, .unset] [(.int (p1 &&& (2147483647 : Int32)))])) _
    refine XS.iconst X0.here hx rfl (hb hby at_4) ?_
    show Steps p.tables e below (s₁.setTop (mkF m 5 #[.val (.int p1), .unset, .unset, .unset] [(.int (3 : Int32)), (.int (p1 &&& (2147483647 : Int32)))])) _
    refine XS.irem X0.here hx rfl (hb hby at_5) rfl (by decide) ?_
    show Steps p.tables e below (s₁.setTop (mkF m 6 #[.val (.int p1), .unset, .unset, .unset] [(.int ((p1 &&& (2147483647 : Int32)) - ((p1 &&& (2147483647 : Int32)) / (3 : Int32)) * (3 : Int32)))])) _
    refine XS.iconst X0.here hx rfl (hb hby at_6) ?_
    show Steps p.tables e below (s₁.setTop (mkF m 7 #[.val (.int p1), .unset, .unset, .unset] [(.int (1 : Int32)), (.int ((p1 &&& (2147483647 : Int32)) - ((p1 &&& (2147483647 : Int32)) / (3 : Int32)) * (3 : Int32)))])) _
    refine XS.iadd X0.here hx rfl (hb hby at_7) rfl ?_
    show Steps p.tables e below (s₁.setTop (mkF m 8 #[.val (.int p1), .unset, .unset, .unset] [(.int (own_c p1))])) _
    rw [hk]
    refine XS.istoreN X0.here hx rfl (hb hby at_8) rfl (l' := #[.val (.int p1), .val (.int (2 : Int32)), .unset, .unset]) rfl ?_
    show Steps p.tables e below (s₁.setTop (mkF m 9 #[.val (.int p1), .val (.int (2 : Int32)), .unset, .unset] [])) _
    refine XS.iloadN X0.here hx rfl (hb hby at_9) rfl ?_
    show Steps p.tables e below (s₁.setTop (mkF m 10 #[.val (.int p1), .val (.int (2 : Int32)), .unset, .unset] [(.int (2 : Int32))])) _
    refine XS.i2b X0.here hx rfl (hb hby at_10) rfl ?_
    show Steps p.tables e below (s₁.setTop (mkF m 11 #[.val (.int p1), .val (.int (2 : Int32)), .unset, .unset] [(.int (2 : Int32))])) _
    refine XS.istoreN X0.here hx rfl (hb hby at_11) rfl (l' := #[.val (.int p1), .val (.int (2 : Int32)), .val (.int (2 : Int32)), .unset]) rfl ?_
    show Steps p.tables e below (s₁.setTop (mkF m 12 #[.val (.int p1), .val (.int (2 : Int32)), .val (.int (2 : Int32)), .unset] [])) _
    refine XS.iloadN X0.here hx rfl (hb hby at_12) rfl ?_
    show Steps p.tables e below (s₁.setTop (mkF m 13 #[.val (.int p1), .val (.int (2 : Int32)), .val (.int (2 : Int32)), .unset] [(.int (2 : Int32))])) _
    refine st2 _ ?_
    show Steps p.tables e below (T2.setTop (mkF m 16 #[.val (.int p1), .val (.int (2 : Int32)), .val (.int (2 : Int32)), .unset] [(.ref w1)])) _
    refine XS.astoreN X2.here hx rfl (hb hby at_16) rfl rfl (l' := #[.val (.int p1), .val (.int (2 : Int32)), .val (.int (2 : Int32)), .val (.ref w1)]) rfl ?_
    show Steps p.tables e below (T2.setTop (mkF m 17 #[.val (.int p1), .val (.int (2 : Int32)), .val (.int (2 : Int32)), .val (.ref w1)] [])) _
    refine XS.aloadN X2.here hx rfl (hb hby at_17) rfl rfl ?_
    show Steps p.tables e below (T2.setTop (mkF m 18 #[.val (.int p1), .val (.int (2 : Int32)), .val (.int (2 : Int32)), .val (.ref w1)] [(.ref w1)])) _
    refine XS.iloadN X2.here hx rfl (hb hby at_18) rfl ?_
    show Steps p.tables e below (T2.setTop (mkF m 19 #[.val (.int p1), .val (.int (2 : Int32)), .val (.int (2 : Int32)), .val (.ref w1)] [(.int (2 : Int32)), (.ref w1)])) _
    refine st3 _ ?_
    show Steps p.tables e below (T3.setTop (mkF m 22 #[.val (.int p1), .val (.int (2 : Int32)), .val (.int (2 : Int32)), .val (.ref w1)] [(.ref w1), (.ref w1)])) _
    refine Jvm.RoadKit.acmp (g := (mkF m 22 #[.val (.int p1), .val (.int (2 : Int32)), .val (.int (2 : Int32)), .val (.ref w1)] [(.ref w1), (.ref w1)])) X3 hx rfl rfl rfl (pc0 := 22) (pc' := 25) (same := true) rfl (hb hby at_22) rfl (decide_eq_true rfl) (by decide) (by decide) ?_
    show Steps p.tables e below (T3.setTop (mkF m 25 #[.val (.int p1), .val (.int (2 : Int32)), .val (.int (2 : Int32)), .val (.ref w1)] [])) _
    refine XS.aloadN X3.here hx rfl (hb hby at_25) rfl rfl ?_
    show Steps p.tables e below (T3.setTop (mkF m 26 #[.val (.int p1), .val (.int (2 : Int32)), .val (.int (2 : Int32)), .val (.ref w1)] [(.ref w1)])) _
    refine st4.trans ?_
    show Steps p.tables e below (T4.setTop (mkF m 29 #[.val (.int p1), .val (.int (2 : Int32)), .val (.int (2 : Int32)), .val (.ref w1)] [(.int (2 : Int32))])) _
    refine XS.iloadN X4.here hx rfl (hb hby at_29) rfl ?_
    show Steps p.tables e below (T4.setTop (mkF m 30 #[.val (.int p1), .val (.int (2 : Int32)), .val (.int (2 : Int32)), .val (.ref w1)] [(.int (2 : Int32)), (.int (2 : Int32))])) _
    refine XS.icmpNo X4.here hx rfl (hb hby at_30) rfl (teq (rfl : (2 : Int32) = (2 : Int32))).2 ?_
    show Steps p.tables e below (T4.setTop (mkF m 33 #[.val (.int p1), .val (.int (2 : Int32)), .val (.int (2 : Int32)), .val (.ref w1)] [])) _
    refine XS.iconst X4.here hx rfl (hb hby at_33) ?_
    show Steps p.tables e below (T4.setTop (mkF m 34 #[.val (.int p1), .val (.int (2 : Int32)), .val (.int (2 : Int32)), .val (.ref w1)] [(.int (1 : Int32))])) _
    refine XS.goto X4.here hx rfl (pc0 := 34) (pc' := 38) rfl (hb hby at_34) (by decide) (by decide) ?_
    show Steps p.tables e below (T4.setTop (mkF m 38 #[.val (.int p1), .val (.int (2 : Int32)), .val (.int (2 : Int32)), .val (.ref w1)] [(.int (1 : Int32))])) _
    exact retN X4 hx (t := .boolean) Bd.returns (by simp) (hb hby at_38) hr
  · show Q0_2 Z p1 h0 n0 _ T4.heap _
    exact ⟨rfl, N4⟩
def Q0_3 (Z : State) (p1 : Int32) (h0 : Heap) (n0 : Nat) (v : Option Value) (h : Heap) (L : List Loc) : Prop := v = some (.int (1 : Int32)) ∧ Fr n0 L
set_option maxRecDepth 65536 in
set_option maxHeartbeats 40000000 in
theorem rm0_3 (l : Launch) (Z : State) (a0 : Array Value) (hw : ∀ d ∈ tables_1, d.before a0 Z = true) (ws : List Jvm.Cond) (p1 : Int32) (wv : Addr) (cl : Cell) (w0 : Addr) (w1 : Addr) (w2 : Addr) (h0 : Heap) (n0 : Nat) (Z0 : n0 ≤ h0.size) (S_v : Sta Z h0 "com/example/tresord/tresord/keymodule/CheckKeyKind" "$VALUES" "[Lcom/example/tresord/tresord/keymodule/CheckKeyKind;" (.ref wv)) (E_v : Exa Z h0 wv "[Lcom/example/tresord/tresord/keymodule/CheckKeyKind;") (Ar_v : Arr Z h0 wv cl (.object "com/example/tresord/tresord/keymodule/CheckKeyKind")) (FC : FitC Z cl) (hsz : cl.slots.size = 3) (hin0 : ¬ ((0 : Int32) < 0 ∨ cl.slots.size ≤ ((0 : Int32)).toNatClampNeg)) (hat0 : cl.slots[((0 : Int32)).toNatClampNeg]? = some (.ref w0)) (hin1 : ¬ ((1 : Int32) < 0 ∨ cl.slots.size ≤ ((1 : Int32)).toNatClampNeg)) (hat1 : cl.slots[((1 : Int32)).toNatClampNeg]? = some (.ref w1)) (hin2 : ¬ ((2 : Int32) < 0 ∨ cl.slots.size ≤ ((2 : Int32)).toNatClampNeg)) (hat2 : cl.slots[((2 : Int32)).toNatClampNeg]? = some (.ref w2)) (F_0 : Fld Z h0 w0 "com/example/tresord/tresord/keymodule/CheckKeyKind" "code" "B" (.int (1 : Int32))) (F_1 : Fld Z h0 w1 "com/example/tresord/tresord/keymodule/CheckKeyKind" "code" "B" (.int (2 : Int32))) (F_2 : Fld Z h0 w2 "com/example/tresord/tresord/keymodule/CheckKeyKind" "code" "B" (.int (3 : Int32))) (S_k : Sta Z h0 "com/example/tresord/tresord/keymodule/CheckKeyKind" "OCSP" "Lcom/example/tresord/tresord/keymodule/CheckKeyKind;" (.ref w2)) (E_k : Exa Z h0 w2 "com/example/tresord/tresord/keymodule/CheckKeyKind") (hk : own_c p1 = (3 : Int32)) :
    MetFree l x (head1 (Jvm.Cond.code x code maxLocals ret :: ws) room_1) (fun a U => a = #[(.int p1)] ∧ Z.Warmed39 U.vm ∧ U.heap = h0) (fun _ _ _ _ _ => True) (fun _ U o U' => ∃ v L, o = .returned v ∧ Q0_3 Z p1 h0 n0 v U'.heap L ∧ FrameEnd U o U' L room_1.cells room_1.slots) := by
  refine MetFree.of_bodySF (plainFor_of_name pn_0) hisR ?_
  intro p e s m args below meth c s₁ Bd hml0 hP hK
  obtain ⟨rfl, hZ, hh⟩ := hP
  have hx := Bd.exec
  have hby := Bd.bytes
  have hml : c.maxLocals = 4 := hml0
  have hown : s.vm.findClass "com/example/tresord/tresord/keymodule/CheckKeyKindFromCodePinLaw" = some m.cls := findClass_of_methodNamed Bd.named
  have hnm := (name_of_methodNamed Bd.named Bd.method).1
  have X0 : Stand p l e room_1 s m #[(.int p1)] below meth c s₁ [] 0 0 := Stand.of_body Bd
  have e0 : s₁.heap = h0 := by rw [← hh, Bd.state]; rfl
  have N0 := Fr.nil n0
  have pre0 : ∀ t, Steps p.tables e below (s₁.setTop (mkF m 0 #[.val (.int p1), .unset, .unset, .unset] [])) t → Steps p.tables e below (s₁.setTop (entryFrame m #[(.int p1)] maxLocals)) t := fun t k => castTop (ef_0 m p1) k
  -- 3. LAWS
  -- pc 13: com/example/tresord/tresord/keymodule/CheckKeyKind.fromCode by its contract rm1
  obtain ⟨_, _, ⟨T2, L2, k2, n2⟩, -, X2, ⟨Lc2, hQ2, l2, y2, z2⟩, st2⟩ := Jvm.LawKit.callS X0 hx (y := (⟨"com/example/tresord/tresord/keymodule/CheckKeyKind", "fromCode", "(B)Lcom/example/tresord/tresord/keymodule/CheckKeyKind;"⟩ : MethodName)) hown (mvT hZ (hw _ (List.mem_of_getElem? (i := 1) rfl))) (mvT hZ (hw _ (List.mem_of_getElem? (i := 2) rfl))) (mvT hZ (hw _ (List.mem_of_getElem? (i := 3) rfl))) (mvT hZ (hw _ (List.mem_of_getElem? (i := 4) rfl))) (by decide) (backOf (W := 0) (rm1_3 l Z a0 hw [] (3 : Int32) wv cl w0 w1 w2 h0 n0 Z0 S_v E_v Ar_v FC hsz hin0 hat0 hin1 hat1 hin2 hat2 F_0 F_1 F_2 (by decide) (by decide) rfl) hZ (hw _ (List.mem_of_getElem? (i := 4) rfl)) (hw _ (List.mem_of_getElem? (i := 3) rfl)) (by decide) (by decide)) (g := (mkF m 13 #[.val (.int p1), .val (.int (3 : Int32)), .val (.int (3 : Int32)), .unset] [(.int (3 : Int32))])) rfl (by rw [hml]; rfl) (argsL := [(.int (3 : Int32))]) (rest := []) (lenOf pd_0_0 rfl) rfl (by show 2 * 0 + _ ≤ _; exact Nat.le_of_eq rfl) (hb hby at_13) (fun _ _ => ⟨rfl, e0, (by decide : 0 + 1 ≤ _), (by decide : 0 + 3 ≤ _)⟩)
  dsimp only [Pt.U, Pt.locs, Pt.cells, Pt.slots] at X2 l2 y2 z2 st2 hQ2
  subst l2 y2 z2
  obtain ⟨rfl, N2q, x2⟩ := hQ2      -- what it returned, that it wrote nothing old, and the rest of your Q1
  have N2 := Fr.app N0 N2q
  -- pc 19: com/example/tresord/tresord/keymodule/CheckKeyKindFromCodePinLaw.expected by its contract rm3
  obtain ⟨_, _, ⟨T3, L3, k3, n3⟩, -, X3, ⟨Lc3, hQ3, l3, y3, z3⟩, st3⟩ := Jvm.LawKit.callS X2 hx (y := (⟨"com/example/tresord/tresord/keymodule/CheckKeyKindFromCodePinLaw", "expected", "(I)Lcom/example/tresord/tresord/keymodule/CheckKeyKind;"⟩ : MethodName)) hown (mvT hZ (hw _ (List.mem_of_getElem? (i := 25) rfl))) (mvT hZ (hw _ (List.mem_of_getElem? (i := 26) rfl))) (mvT hZ (hw _ (List.mem_of_getElem? (i := 27) rfl))) (mvT hZ (hw _ (List.mem_of_getElem? (i := 28) rfl))) (by decide) (backOf (W := 1) (rm3_3 l Z a0 hw [] (3 : Int32) w2 T2.heap n0 (Nat.le_trans Z0 x2.1) (S_k.ext x2) (by decide) (by decide)) hZ (hw _ (List.mem_of_getElem? (i := 28) rfl)) (hw _ (List.mem_of_getElem? (i := 27) rfl)) (by decide) (by decide)) (g := (mkF m 19 #[.val (.int p1), .val (.int (3 : Int32)), .val (.int (3 : Int32)), .val (.ref w2)] [(.int (3 : Int32)), (.ref w2)])) rfl (by rw [hml]; rfl) (argsL := [(.int (3 : Int32))]) (rest := [(.ref w2)]) (lenOf pd_0_3 rfl) rfl (by show 2 * 0 + _ ≤ _; exact Nat.le_of_eq rfl) (hb hby at_19) (fun _ _ => ⟨rfl, rfl, (by decide : 1 + 0 ≤ _), (by decide : 3 + 0 ≤ _)⟩)
  dsimp only [Pt.U, Pt.locs, Pt.cells, Pt.slots] at X3 l3 y3 z3 st3 hQ3
  subst l3 y3 z3
  obtain ⟨rfl, N3q, e3q⟩ := hQ3      -- what it returned, that it wrote nothing old, and the rest of your Q3
  have N3 := Fr.app N2 N3q
  -- pc 26: com/example/tresord/tresord/keymodule/CheckKeyKind.code by the contract of the body that the receiver's class selects, rm4
  obtain ⟨cq4, kq4, q4a, q4b, q4c⟩ := isOf hZ e3q (E_k.ext x2)
  obtain ⟨_, _, ⟨T4, L4, k4, n4⟩, -, X4, ⟨Lc4, hQ4, l4, y4, z4⟩, st4⟩ := X3.virtualBack hx (y := (⟨"com/example/tresord/tresord/keymodule/CheckKeyKind", "code", "()B"⟩ : MethodName)) (z := (⟨"com/example/tresord/tresord/keymodule/CheckKeyKind", "code", "()B"⟩ : MethodName)) hown (mvT hZ (hw _ (List.mem_of_getElem? (i := 30) rfl))) (mvT hZ (hw _ (List.mem_of_getElem? (i := 31) rfl))) (notFace_of_selects (args := #[]) (mvT hZ (hw _ (List.mem_of_getElem? (i := 33) rfl)))) (mvT hZ (hw _ (List.mem_of_getElem? (i := 33) rfl))) (mvT hZ (hw _ (List.mem_of_getElem? (i := 32) rfl))) (by decide) (backOf (W := 0) (rm4_3 l Z a0 hw [] w2 T2.heap n0 (Nat.le_trans Z0 x2.1) (F_2.ext x2)) hZ (hw _ (List.mem_of_getElem? (i := 34) rfl)) (hw _ (List.mem_of_getElem? (i := 3) rfl)) (by decide) (by decide)) q4a q4c (g := (mkF m 26 #[.val (.int p1), .val (.int (3 : Int32)), .val (.int (3 : Int32)), .val (.ref w2)] [(.ref w2)])) rfl (by rw [hml]; rfl) (Steps.refl _) (argsL := []) (rest := []) (lenOf pd_0_4 rfl) rfl (by show 2 * 0 + _ ≤ _; exact Nat.le_of_eq rfl) (hb hby at_26) (fun _ _ => ⟨rfl, e3q, (by decide : 1 + 0 ≤ _), (by decide : 3 + 0 ≤ _)⟩)
  dsimp only [Pt.U, Pt.locs, Pt.cells, Pt.slots] at X4 l4 y4 z4 st4 hQ4
  subst l4 y4 z4
  obtain ⟨rfl, N4q, e4q⟩ := hQ4      -- what it returned, that it wrote nothing old, and the rest of your Q4
  have N4 := Fr.app N3 N4q
  obtain ⟨fs, hr, hrun, hended, hW, hsame⟩ := X4.leave (v := some (.int (1 : Int32))) (fun h => by rw [Bd.returns] at h; cases h)
  refine ⟨_, _, pre0 _ ?_, hrun, hended, _, _, rfl, ?_, ⟨_, rfl⟩, hW, hsame.mono (by decide) (by decide)⟩
  -- 4. STEPS
  · show Steps p.tables e below (s₁.setTop (mkF m 0 #[.val (.int p1), .unset, .unset, .unset] [])) _
    refine XS.iloadN X0.here hx rfl (hb hby at_0) rfl ?_
    show Steps p.tables e below (s₁.setTop (mkF m 1 #[.val (.int p1), .unset, .unset, .unset] [(.int p1)])) _
    refine X0.ldcInt hx hown (mvT hZ (hw _ (List.mem_of_getElem? (i := 0) rfl))) (g := (mkF m 1 #[.val (.int p1), .unset, .unset, .unset] [(.int p1)])) rfl (hb hby at_1) _ ?_
    show Steps p.tables e below (s₁.setTop (mkF m 3 #[.val (.int p1), .unset, .unset, .unset] [(.int (2147483647 : Int32)), (.int p1)])) _
    refine XS.iand X0.here hx rfl (hb hby at_3) rfl ?_
    show Steps p.tables e below (s₁.setTop (mkF m 4 #[.val (.int p1), .unset, .unset, .unset] [(.int (p1 &&& (2147483647 : Int32)))])) _
    refine XS.iconst X0.here hx rfl (hb hby at_4) ?_
    show Steps p.tables e below (s₁.setTop (mkF m 5 #[.val (.int p1), .unset, .unset, .unset] [(.int (3 : Int32)), (.int (p1 &&& (2147483647 : Int32)))])) _
    refine XS.irem X0.here hx rfl (hb hby at_5) rfl (by decide) ?_
    show Steps p.tables e below (s₁.setTop (mkF m 6 #[.val (.int p1), .unset, .unset, .unset] [(.int ((p1 &&& (2147483647 : Int32)) - ((p1 &&& (2147483647 : Int32)) / (3 : Int32)) * (3 : Int32)))])) _
    refine XS.iconst X0.here hx rfl (hb hby at_6) ?_
    show Steps p.tables e below (s₁.setTop (mkF m 7 #[.val (.int p1), .unset, .unset, .unset] [(.int (1 : Int32)), (.int ((p1 &&& (2147483647 : Int32)) - ((p1 &&& (2147483647 : Int32)) / (3 : Int32)) * (3 : Int32)))])) _
    refine XS.iadd X0.here hx rfl (hb hby at_7) rfl ?_
    show Steps p.tables e below (s₁.setTop (mkF m 8 #[.val (.int p1), .unset, .unset, .unset] [(.int (own_c p1))])) _
    rw [hk]
    refine XS.istoreN X0.here hx rfl (hb hby at_8) rfl (l' := #[.val (.int p1), .val (.int (3 : Int32)), .unset, .unset]) rfl ?_
    show Steps p.tables e below (s₁.setTop (mkF m 9 #[.val (.int p1), .val (.int (3 : Int32)), .unset, .unset] [])) _
    refine XS.iloadN X0.here hx rfl (hb hby at_9) rfl ?_
    show Steps p.tables e below (s₁.setTop (mkF m 10 #[.val (.int p1), .val (.int (3 : Int32)), .unset, .unset] [(.int (3 : Int32))])) _
    refine XS.i2b X0.here hx rfl (hb hby at_10) rfl ?_
    show Steps p.tables e below (s₁.setTop (mkF m 11 #[.val (.int p1), .val (.int (3 : Int32)), .unset, .unset] [(.int (3 : Int32))])) _
    refine XS.istoreN X0.here hx rfl (hb hby at_11) rfl (l' := #[.val (.int p1), .val (.int (3 : Int32)), .val (.int (3 : Int32)), .unset]) rfl ?_
    show Steps p.tables e below (s₁.setTop (mkF m 12 #[.val (.int p1), .val (.int (3 : Int32)), .val (.int (3 : Int32)), .unset] [])) _
    refine XS.iloadN X0.here hx rfl (hb hby at_12) rfl ?_
    show Steps p.tables e below (s₁.setTop (mkF m 13 #[.val (.int p1), .val (.int (3 : Int32)), .val (.int (3 : Int32)), .unset] [(.int (3 : Int32))])) _
    refine st2 _ ?_
    show Steps p.tables e below (T2.setTop (mkF m 16 #[.val (.int p1), .val (.int (3 : Int32)), .val (.int (3 : Int32)), .unset] [(.ref w2)])) _
    refine XS.astoreN X2.here hx rfl (hb hby at_16) rfl rfl (l' := #[.val (.int p1), .val (.int (3 : Int32)), .val (.int (3 : Int32)), .val (.ref w2)]) rfl ?_
    show Steps p.tables e below (T2.setTop (mkF m 17 #[.val (.int p1), .val (.int (3 : Int32)), .val (.int (3 : Int32)), .val (.ref w2)] [])) _
    refine XS.aloadN X2.here hx rfl (hb hby at_17) rfl rfl ?_
    show Steps p.tables e below (T2.setTop (mkF m 18 #[.val (.int p1), .val (.int (3 : Int32)), .val (.int (3 : Int32)), .val (.ref w2)] [(.ref w2)])) _
    refine XS.iloadN X2.here hx rfl (hb hby at_18) rfl ?_
    show Steps p.tables e below (T2.setTop (mkF m 19 #[.val (.int p1), .val (.int (3 : Int32)), .val (.int (3 : Int32)), .val (.ref w2)] [(.int (3 : Int32)), (.ref w2)])) _
    refine st3 _ ?_
    show Steps p.tables e below (T3.setTop (mkF m 22 #[.val (.int p1), .val (.int (3 : Int32)), .val (.int (3 : Int32)), .val (.ref w2)] [(.ref w2), (.ref w2)])) _
    refine Jvm.RoadKit.acmp (g := (mkF m 22 #[.val (.int p1), .val (.int (3 : Int32)), .val (.int (3 : Int32)), .val (.ref w2)] [(.ref w2), (.ref w2)])) X3 hx rfl rfl rfl (pc0 := 22) (pc' := 25) (same := true) rfl (hb hby at_22) rfl (decide_eq_true rfl) (by decide) (by decide) ?_
    show Steps p.tables e below (T3.setTop (mkF m 25 #[.val (.int p1), .val (.int (3 : Int32)), .val (.int (3 : Int32)), .val (.ref w2)] [])) _
    refine XS.aloadN X3.here hx rfl (hb hby at_25) rfl rfl ?_
    show Steps p.tables e below (T3.setTop (mkF m 26 #[.val (.int p1), .val (.int (3 : Int32)), .val (.int (3 : Int32)), .val (.ref w2)] [(.ref w2)])) _
    refine st4.trans ?_
    show Steps p.tables e below (T4.setTop (mkF m 29 #[.val (.int p1), .val (.int (3 : Int32)), .val (.int (3 : Int32)), .val (.ref w2)] [(.int (3 : Int32))])) _
    refine XS.iloadN X4.here hx rfl (hb hby at_29) rfl ?_
    show Steps p.tables e below (T4.setTop (mkF m 30 #[.val (.int p1), .val (.int (3 : Int32)), .val (.int (3 : Int32)), .val (.ref w2)] [(.int (3 : Int32)), (.int (3 : Int32))])) _
    refine XS.icmpNo X4.here hx rfl (hb hby at_30) rfl (teq (rfl : (3 : Int32) = (3 : Int32))).2 ?_
    show Steps p.tables e below (T4.setTop (mkF m 33 #[.val (.int p1), .val (.int (3 : Int32)), .val (.int (3 : Int32)), .val (.ref w2)] [])) _
    refine XS.iconst X4.here hx rfl (hb hby at_33) ?_
    show Steps p.tables e below (T4.setTop (mkF m 34 #[.val (.int p1), .val (.int (3 : Int32)), .val (.int (3 : Int32)), .val (.ref w2)] [(.int (1 : Int32))])) _
    refine XS.goto X4.here hx rfl (pc0 := 34) (pc' := 38) rfl (hb hby at_34) (by decide) (by decide) ?_
    show Steps p.tables e below (T4.setTop (mkF m 38 #[.val (.int p1), .val (.int (3 : Int32)), .val (.int (3 : Int32)), .val (.ref w2)] [(.int (1 : Int32))])) _
    exact retN X4 hx (t := .boolean) Bd.returns (by simp) (hb hby at_38) hr
  · show Q0_3 Z p1 h0 n0 _ T4.heap _
    exact ⟨rfl, N4⟩
set_option maxRecDepth 65536 in
set_option maxHeartbeats 40000000 in
theorem comes_1 {Post : Tables → Env → Array Value → State → Outcome → State → Prop} (hpost : ∀ tb e args s v u, (limb_1_1.after args s (.returned v) u = true ∧ limb_1_2.after args s (.returned v) u = true ∧ True) → FrameEnd s (.returned v) u (Jvm.fieldLocs frame_1_writes args s ++ Jvm.arrayLocs frame_1_arrays args s ++ Jvm.staticLocs frame_1_statics s) 16 128 → Post tb e args s (.returned v) u) :
    ArmFor flags0 classFile x code maxLocals ret World_1 tables_1 room_1 Calls_1 rest_1 Pre_1 Post := by
  intro l hfl _ _ p e ha hc hk s m args below hf hA hF happ hP
  obtain ⟨hcalls, hrest, hpre⟩ := hP
  obtain ⟨-, -, -, hnamed, -, -, -, hat⟩ := (Spec.applies_iff hf).mp happ
  obtain ⟨hg, hn⟩ := and_e (Cond.before_iff.mp (show (Jvm.Cond.and given_1 narrow_1).before args s = true from hpre))
  obtain ⟨g5, g6⟩ := and_e hg
  obtain ⟨w0, rfl⟩ : ∃ w0 : Value, args = #[w0] := by
    have hs : args.size = 1 := by simpa [Cond.value, given_1] using g5
    obtain ⟨L⟩ := args
    match L, hs with
    | [w0], _ => exact ⟨w0, rfl⟩
  have hw := fun d (hd : d ∈ tables_1) => atoms_spec (ws := Jvm.Cond.code x code maxLocals ret :: tables_1) hat d (List.mem_cons_of_mem _ hd)
  have hfit : Fit s := fun {y c} hc i hi => by
    obtain ⟨ha, rfl⟩ := Array.getElem?_eq_some_iff.mp hc
    have q := List.all_eq_true.mp ((Array.all_eq_true_iff_forall_mem.mp hF) _ (Array.getElem_mem ha)) i (List.mem_range.mpr hi)
    simpa [Array.getElem?_eq_getElem hi] using q
  obtain ⟨i0, ei0⟩ := is_v g6
  obtain rfl : w0 = (.int i0) := Option.some.inj ei0
  obtain ⟨n0, hn⟩ := and_e hn
  obtain ⟨n1, hn⟩ := and_e hn
  obtain ⟨n2, hn⟩ := and_e hn
  obtain ⟨n3, hn⟩ := and_e hn
  obtain ⟨n4, hn⟩ := and_e hn
  obtain ⟨n5, hn⟩ := and_e hn
  obtain ⟨n6, hn⟩ := and_e hn
  obtain ⟨n7, hn⟩ := and_e hn
  obtain ⟨n8, hn⟩ := and_e hn
  obtain ⟨n9, hn⟩ := and_e hn
  obtain ⟨n10, hn⟩ := and_e hn
  have n11 := hn
  obtain ⟨v, ev⟩ := exa_v n1
  have E_v := Exa.start ev n1
  obtain ⟨cl, Ar_v⟩ := Arr.start ev n0
  have S_v := Sta.start ev (Or.inl (hw _ (List.mem_of_getElem? (i := 20) rfl)))
  have FC : FitC s cl := FitC.start hfit Ar_v
  have hsz : cl.slots.size = 3 := by
    obtain ⟨q3, q5⟩ := own_len (own_eqInt n2) ev (Ar_v.fin (Vm.Alike.refl _))
    have q6 := len_toInt q3
    rw [q5] at q6
    have q7 : ((3 : Int32)).toInt = 3 := by decide
    omega
  obtain ⟨a0, e0⟩ := exa_v n3
  have E_0 := Exa.start e0 n3
  have S_0 := Sta.start e0 (Or.inr ⟨hw _ (List.mem_of_getElem? (i := 3) rfl), hw _ (List.mem_of_getElem? (i := 17) rfl)⟩)
  have F_0 := Fld.start ((fld_at e0).symm.trans (own_eqInt n9))
  obtain ⟨hin0, hat0⟩ := elem_in (own_eqRef n4 e0) ev (Term.int_eval _) Ar_v.1
  obtain ⟨a1, e1⟩ := exa_v n5
  have E_1 := Exa.start e1 n5
  have S_1 := Sta.start e1 (Or.inr ⟨hw _ (List.mem_of_getElem? (i := 3) rfl), hw _ (List.mem_of_getElem? (i := 18) rfl)⟩)
  have F_1 := Fld.start ((fld_at e1).symm.trans (own_eqInt n10))
  obtain ⟨hin1, hat1⟩ := elem_in (own_eqRef n6 e1) ev (Term.int_eval _) Ar_v.1
  obtain ⟨a2, e2⟩ := exa_v n7
  have E_2 := Exa.start e2 n7
  have S_2 := Sta.start e2 (Or.inr ⟨hw _ (List.mem_of_getElem? (i := 3) rfl), hw _ (List.mem_of_getElem? (i := 19) rfl)⟩)
  have F_2 := Fld.start ((fld_at e2).symm.trans (own_eqInt n11))
  obtain ⟨hin2, hat2⟩ := elem_in (own_eqRef n8 e2) ev (Term.int_eval _) Ar_v.1
  rcases own_c_range i0 with k1 | k1 | k1
  · obtain ⟨n, o, h1, h2, h3, _, L, rfl, ⟨rfl, N⟩, hq⟩ := rm0_1 l s _ hw tables_1 i0 v cl a0 s.heap s.heap.size (Nat.le_refl _) S_v E_v Ar_v FC hsz hin0 hat0 F_0 S_0 E_0 k1 p e ha hc hk s m _ below hf ((Spec.applies_iff_loose hf).mp happ).1 ⟨rfl, State.Warmed39.refl s, rfl⟩ trivial
    refine ⟨n, _, h1, h2, h3, hpost _ _ _ _ _ _ ⟨Cond.after_iff.mpr rfl, Cond.after_iff.mpr (eq_i res_at (Term.int_eval (1)) rfl), trivial⟩ ⟨hq.1, hq.2.1, (hq.2.2.sift fun y hy => Or.inr (N y hy)).mono (by decide) (by decide)⟩⟩
  · obtain ⟨n, o, h1, h2, h3, _, L, rfl, ⟨rfl, N⟩, hq⟩ := rm0_2 l s _ hw tables_1 i0 v cl a0 a1 s.heap s.heap.size (Nat.le_refl _) S_v E_v Ar_v FC hsz hin0 hat0 hin1 hat1 F_0 F_1 S_1 E_1 k1 p e ha hc hk s m _ below hf ((Spec.applies_iff_loose hf).mp happ).1 ⟨rfl, State.Warmed39.refl s, rfl⟩ trivial
    refine ⟨n, _, h1, h2, h3, hpost _ _ _ _ _ _ ⟨Cond.after_iff.mpr rfl, Cond.after_iff.mpr (eq_i res_at (Term.int_eval (1)) rfl), trivial⟩ ⟨hq.1, hq.2.1, (hq.2.2.sift fun y hy => Or.inr (N y hy)).mono (by decide) (by decide)⟩⟩
  · obtain ⟨n, o, h1, h2, h3, _, L, rfl, ⟨rfl, N⟩, hq⟩ := rm0_3 l s _ hw tables_1 i0 v cl a0 a1 a2 s.heap s.heap.size (Nat.le_refl _) S_v E_v Ar_v FC hsz hin0 hat0 hin1 hat1 hin2 hat2 F_0 F_1 F_2 S_2 E_2 k1 p e ha hc hk s m _ below hf ((Spec.applies_iff_loose hf).mp happ).1 ⟨rfl, State.Warmed39.refl s, rfl⟩ trivial
    refine ⟨n, _, h1, h2, h3, hpost _ _ _ _ _ _ ⟨Cond.after_iff.mpr rfl, Cond.after_iff.mpr (eq_i res_at (Term.int_eval (1)) rfl), trivial⟩ ⟨hq.1, hq.2.1, (hq.2.2.sift fun y hy => Or.inr (N y hy)).mono (by decide) (by decide)⟩⟩
theorem main_1_1 : Claimed_1_1 := comes_1 fun _ _ _ _ _ _ h hF => ⟨h.1, hF⟩
theorem main_1_2 : Claimed_1_2 := comes_1 fun _ _ _ _ _ _ h hF => ⟨h.2.1, hF⟩
end Jvm.Pilot.@@N@@
namespace Jvm.Pilot.@@N@@
open Jvm Jvm.ClassFile Sem Op Lib Jvm.Free Jvm.Stand Jvm.Pilot.@@N@@.Jvm.D
/-! MADE BY PROGRAM (witnessworld.py) out of the Statement's table words and the real class files: 13 classes; the members and pool entries that the words name. The judged class is class 1, her method 2. -/
namespace start1
open Jvm.ClassFile
def u (s : String) : CpInfo := .utf8 (stringToUtf16 s)
/-- a pool by its gaps: so many unusable entries, then the entry; so many at the end -/
def gap : Nat → List CpInfo → List CpInfo
  | 0, r => r
  | n + 1, r => .unusable :: gap n r
def poolList (es : List (Nat × CpInfo)) (last : Nat) : List CpInfo := es.foldr (fun e r => gap e.1 (e.2 :: r)) (gap last [])
def pool (es : List (Nat × CpInfo)) (last : Nat) : Array CpInfo := ⟨poolList es last⟩
def fileOf (pool : Array CpInfo) (this : Nat) (attrs : Array Attribute := #[]) (ms : Array MethodInfo := #[]) (fl : Nat := 33) (sup : Nat := 0) (ifs : Array Nat := #[]) (fds : Array FieldInfo := #[]) : ClassFile where
  minorVersion := 0
  majorVersion := 65
  constantPool := pool
  accessFlags := fl
  thisClass := this
  superClass := sup
  interfaces := ifs
  fields := fds
  methods := ms
  attributes := attrs
def plain (name : String) (sup : Option ClassId) : Class where
  name := name
  kind := .ordinary
  loader := none
  accessFlags := 33
  super := sup
  interfaces := #[]
  cf := none
  fields := #[]
  methods := #[]
  instanceTypes := #[]
  staticTypes := #[]
  resolved := #[]
  callSites := []
  init := .initialized
  statics := none
  mirror := none

def pool0 : Array CpInfo := pool [(5, u "<init>"), (0, u "()V"), (1, .class_ 10), (1, u "java/lang/Object"), (85, u "clone"), (0, u "()Ljava/lang/Object;")] 26

def k0m0 : Method := { name := "<init>", desc := "()V", sig := { parameters := [], returnType := none }, accessFlags := 1, code := none }
def k0m1 : Method := { name := "clone", desc := "()Ljava/lang/Object;", sig := { parameters := [], returnType := some (.object "java/lang/Object") }, accessFlags := 260, code := none }
/-- java/lang/Object -/
def k0 : Class := { plain "java/lang/Object" none with
  accessFlags := 33
  interfaces := #[]
  cf := some (fileOf pool0 8 #[] #[{ accessFlags := 1, nameIndex := 5, descriptorIndex := 6, attributes := #[] }, { accessFlags := 260, nameIndex := 96, descriptorIndex := 97, attributes := #[] }] 33 0 #[] #[])
  fields := #[]
  methods := #[k0m0, k0m1]
  instanceTypes := #[]
  staticTypes := #[]
  resolved := Array.replicate 124 none
  statics := none }

def pool1 : Array CpInfo := pool [(2, .class_ 4), (1, u "java/lang/Object"), (0, u "<init>"), (0, u "()V"), (0, .fieldref 8 9), (0, .class_ 10), (0, .nameAndType 11 12), (0, u "com/example/tresord/tresord/keymodule/CheckKeyKind"), (0, u "ROOT"), (0, u "Lcom/example/tresord/tresord/keymodule/CheckKeyKind;"), (0, .fieldref 8 14), (0, .nameAndType 15 12), (0, u "CA"), (0, .fieldref 8 17), (0, .nameAndType 18 12), (0, u "OCSP"), (0, .integer 2147483647), (0, .methodref 8 21), (0, .nameAndType 22 23), (0, u "fromCode"), (0, u "(B)Lcom/example/tresord/tresord/keymodule/CheckKeyKind;"), (0, .methodref 25 26), (0, .class_ 27), (0, .nameAndType 28 29), (0, u "com/example/tresord/tresord/keymodule/CheckKeyKindFromCodePinLaw"), (0, u "expected"), (0, u "(I)Lcom/example/tresord/tresord/keymodule/CheckKeyKind;"), (0, .methodref 8 31), (0, .nameAndType 32 33), (0, u "code"), (0, u "()B"), (3, u "law"), (0, u "(I)Z")] 2

def k1m0 : Method := { name := "<init>", desc := "()V", sig := { parameters := [], returnType := none }, accessFlags := 2, code := none }
def k1c1 : Code := { maxStack := 2, maxLocals := 1, code := method_2_code, exceptionTable := #[], attributes := #[] }
def k1m1 : Method := { name := "expected", desc := "(I)Lcom/example/tresord/tresord/keymodule/CheckKeyKind;", sig := { parameters := [.int], returnType := some (.object "com/example/tresord/tresord/keymodule/CheckKeyKind") }, accessFlags := 10, code := some k1c1 }
def k1c2 : Code := { maxStack := 2, maxLocals := 4, code := code, exceptionTable := #[], attributes := #[] }
def k1m2 : Method := { name := "law", desc := "(I)Z", sig := { parameters := [.int], returnType := some .boolean }, accessFlags := 9, code := some k1c2 }
/-- com/example/tresord/tresord/keymodule/CheckKeyKindFromCodePinLaw -/
def k1 : Class := { plain "com/example/tresord/tresord/keymodule/CheckKeyKindFromCodePinLaw" (some 0) with
  accessFlags := 49
  interfaces := #[]
  cf := some (fileOf pool1 25 #[] #[{ accessFlags := 2, nameIndex := 5, descriptorIndex := 6, attributes := #[] }, { accessFlags := 10, nameIndex := 28, descriptorIndex := 29, attributes := #[] }, { accessFlags := 9, nameIndex := 37, descriptorIndex := 38, attributes := #[] }] 49 2 #[] #[])
  fields := #[]
  methods := #[k1m0, k1m1, k1m2]
  instanceTypes := #[]
  staticTypes := #[]
  resolved := Array.replicate 41 none
  statics := none }

def pool2 : Array CpInfo := pool [(1, .class_ 2), (0, u "java/lang/constant/Constable"), (0, .class_ 4), (0, u "java/lang/Object")] 6

/-- java/lang/constant/Constable -/
def k2 : Class := { plain "java/lang/constant/Constable" (some 0) with
  accessFlags := 1537
  interfaces := #[]
  cf := some (fileOf pool2 1 #[] #[] 1537 3 #[] #[])
  fields := #[]
  methods := #[]
  instanceTypes := #[]
  staticTypes := #[]
  resolved := Array.replicate 11 none
  statics := none }

def pool3 : Array CpInfo := pool [(1, .class_ 2), (0, u "java/lang/Comparable"), (0, .class_ 4), (0, u "java/lang/Object")] 7

/-- java/lang/Comparable -/
def k3 : Class := { plain "java/lang/Comparable" (some 0) with
  accessFlags := 1537
  interfaces := #[]
  cf := some (fileOf pool3 1 #[] #[] 1537 3 #[] #[])
  fields := #[]
  methods := #[]
  instanceTypes := #[]
  staticTypes := #[]
  resolved := Array.replicate 12 none
  statics := none }

def pool4 : Array CpInfo := pool [(1, .class_ 2), (0, u "java/io/Serializable"), (0, .class_ 4), (0, u "java/lang/Object")] 2

/-- java/io/Serializable -/
def k4 : Class := { plain "java/io/Serializable" (some 0) with
  accessFlags := 1537
  interfaces := #[]
  cf := some (fileOf pool4 1 #[] #[] 1537 3 #[] #[])
  fields := #[]
  methods := #[]
  instanceTypes := #[]
  staticTypes := #[]
  resolved := Array.replicate 7 none
  statics := none }

def pool5 : Array CpInfo := pool [(2, .class_ 4), (1, u "java/lang/Enum"), (0, u "name"), (0, u "Ljava/lang/String;"), (2, u "ordinal"), (0, u "I"), (1, .class_ 14), (1, u "java/lang/Object"), (4, u "hash"), (86, .class_ 108), (1, u "java/lang/Enum$EnumDesc"), (2, .class_ 112), (0, u "java/lang/constant/Constable"), (0, .class_ 114), (0, u "java/lang/Comparable"), (0, .class_ 116), (0, u "java/io/Serializable")] 87

/-- java/lang/Enum -/
def k5 : Class := { plain "java/lang/Enum" (some 0) with
  accessFlags := 1057
  interfaces := #[2, 3, 4]
  cf := some (fileOf pool5 2 #[.nestMembers #[106]] #[] 1057 12 #[111, 113, 115] #[{ accessFlags := 18, nameIndex := 5, descriptorIndex := 6, attributes := #[] }, { accessFlags := 18, nameIndex := 9, descriptorIndex := 10, attributes := #[] }, { accessFlags := 2, nameIndex := 19, descriptorIndex := 10, attributes := #[] }])
  fields := #[{ name := "name", type := (.object "java/lang/String"), accessFlags := 18, slot := 0, constantValue := 0 }, { name := "ordinal", type := .int, accessFlags := 18, slot := 1, constantValue := 0 }, { name := "hash", type := .int, accessFlags := 2, slot := 2, constantValue := 0 }]
  methods := #[]
  instanceTypes := #[(.object "java/lang/String"), .int, .int]
  staticTypes := #[]
  resolved := Array.replicate 204 none
  statics := none }

def pool6 : Array CpInfo := pool [(1, .class_ 2), (0, u "com/example/tresord/tresord/keymodule/CheckKeyKind"), (2, u "ROOT"), (0, u "Lcom/example/tresord/tresord/keymodule/CheckKeyKind;"), (2, u "CA"), (2, u "OCSP"), (0, .fieldref 1 14), (0, .nameAndType 15 16), (0, u "$VALUES"), (0, u "[Lcom/example/tresord/tresord/keymodule/CheckKeyKind;"), (0, .methodref 18 19), (0, .class_ 16), (0, .nameAndType 20 21), (0, u "clone"), (0, u "()Ljava/lang/Object;"), (1, .class_ 25), (1, u "java/lang/Enum"), (8, u "label"), (0, u "Ljava/lang/String;"), (0, .fieldref 1 37), (0, .nameAndType 38 39), (0, u "code"), (0, u "B"), (0, .methodref 1 41), (0, .nameAndType 42 43), (0, u "values"), (0, u "()[Lcom/example/tresord/tresord/keymodule/CheckKeyKind;"), (30, u "()B"), (0, u "fromCode"), (0, u "(B)Lcom/example/tresord/tresord/keymodule/CheckKeyKind;")] 21

def k6c0 : Code := { maxStack := 1, maxLocals := 0, code := prog_6_method_1_code, exceptionTable := #[], attributes := #[] }
def k6m0 : Method := { name := "values", desc := "()[Lcom/example/tresord/tresord/keymodule/CheckKeyKind;", sig := { parameters := [], returnType := some (.array (.object "com/example/tresord/tresord/keymodule/CheckKeyKind")) }, accessFlags := 9, code := some k6c0 }
def k6c1 : Code := { maxStack := 1, maxLocals := 1, code := prog_6_method_5_code, exceptionTable := #[], attributes := #[] }
def k6m1 : Method := { name := "code", desc := "()B", sig := { parameters := [], returnType := some .byte }, accessFlags := 0, code := some k6c1 }
def k6c2 : Code := { maxStack := 3, maxLocals := 5, code := prog_6_method_6_code, exceptionTable := #[], attributes := #[] }
def k6m2 : Method := { name := "fromCode", desc := "(B)Lcom/example/tresord/tresord/keymodule/CheckKeyKind;", sig := { parameters := [.byte], returnType := some (.object "com/example/tresord/tresord/keymodule/CheckKeyKind") }, accessFlags := 8, code := some k6c2 }
/-- com/example/tresord/tresord/keymodule/CheckKeyKind -/
def k6 : Class := { plain "com/example/tresord/tresord/keymodule/CheckKeyKind" (some 5) with
  accessFlags := 16433
  interfaces := #[]
  cf := some (fileOf pool6 1 #[] #[{ accessFlags := 9, nameIndex := 42, descriptorIndex := 43, attributes := #[] }, { accessFlags := 0, nameIndex := 38, descriptorIndex := 74, attributes := #[] }, { accessFlags := 8, nameIndex := 75, descriptorIndex := 76, attributes := #[] }] 16433 23 #[] #[{ accessFlags := 16409, nameIndex := 5, descriptorIndex := 6, attributes := #[] }, { accessFlags := 16409, nameIndex := 9, descriptorIndex := 6, attributes := #[] }, { accessFlags := 16409, nameIndex := 12, descriptorIndex := 6, attributes := #[] }, { accessFlags := 18, nameIndex := 34, descriptorIndex := 35, attributes := #[] }, { accessFlags := 18, nameIndex := 38, descriptorIndex := 39, attributes := #[] }, { accessFlags := 4122, nameIndex := 15, descriptorIndex := 16, attributes := #[] }])
  fields := #[{ name := "ROOT", type := (.object "com/example/tresord/tresord/keymodule/CheckKeyKind"), accessFlags := 16409, slot := 0, constantValue := 0 }, { name := "CA", type := (.object "com/example/tresord/tresord/keymodule/CheckKeyKind"), accessFlags := 16409, slot := 1, constantValue := 0 }, { name := "OCSP", type := (.object "com/example/tresord/tresord/keymodule/CheckKeyKind"), accessFlags := 16409, slot := 2, constantValue := 0 }, { name := "label", type := (.object "java/lang/String"), accessFlags := 18, slot := 3, constantValue := 0 }, { name := "code", type := .byte, accessFlags := 18, slot := 4, constantValue := 0 }, { name := "$VALUES", type := (.array (.object "com/example/tresord/tresord/keymodule/CheckKeyKind")), accessFlags := 4122, slot := 3, constantValue := 0 }]
  methods := #[k6m0, k6m1, k6m2]
  instanceTypes := #[(.object "java/lang/String"), .int, .int, (.object "java/lang/String"), .byte]
  staticTypes := #[(.object "com/example/tresord/tresord/keymodule/CheckKeyKind"), (.object "com/example/tresord/tresord/keymodule/CheckKeyKind"), (.object "com/example/tresord/tresord/keymodule/CheckKeyKind"), (.array (.object "com/example/tresord/tresord/keymodule/CheckKeyKind"))]
  resolved := Array.replicate 98 none
  statics := some 0 }

def pool7 : Array CpInfo := pool [(1, .class_ 2), (0, u "java/lang/Cloneable"), (0, .class_ 4), (0, u "java/lang/Object")] 2

/-- java/lang/Cloneable -/
def k7 : Class := { plain "java/lang/Cloneable" (some 0) with
  accessFlags := 1537
  interfaces := #[]
  cf := some (fileOf pool7 1 #[] #[] 1537 3 #[] #[])
  fields := #[]
  methods := #[]
  instanceTypes := #[]
  staticTypes := #[]
  resolved := Array.replicate 7 none
  statics := none }

/-- the primitive byte -/
def k8 : Class := { plain "byte" none with kind := .primitive 'B', accessFlags := 0x411 }
/-- [B -/
def k9 : Class := { plain "[B" (some 0) with kind := .array 8 .byte, interfaces := #[7, 4], accessFlags := 1041 }

/-- the primitive int -/
def k10 : Class := { plain "int" none with kind := .primitive 'I', accessFlags := 0x411 }
/-- [I -/
def k11 : Class := { plain "[I" (some 0) with kind := .array 10 .int, interfaces := #[7, 4], accessFlags := 1041 }

/-- [Lcom/example/tresord/tresord/keymodule/CheckKeyKind; -/
def k12 : Class := { plain "[Lcom/example/tresord/tresord/keymodule/CheckKeyKind;" (some 0) with kind := .array 6 (.object "com/example/tresord/tresord/keymodule/CheckKeyKind"), interfaces := #[7, 4], accessFlags := 1041 }

def heap : Heap := #[{ cls := 6, slots := #[.ref 2, .ref 3, .ref 4, .ref 1], vm := .statics 6 },
  { cls := 12, slots := #[.ref 2, .ref 3, .ref 4], vm := .none },
  { cls := 6, slots := #[.null, .int 0, .int 0, .null, .int 1], vm := .none },
  { cls := 6, slots := #[.null, .int 1, .int 0, .null, .int 2], vm := .none },
  { cls := 6, slots := #[.null, .int 2, .int 0, .null, .int 3], vm := .none }]
def classes : Array Class := #[k0, k1, k2, k3, k4, k5, k6, k7, k8, k9, k10, k11, k12]
def interned : List (Array UInt16 × Addr) := []
def slotsUsed : Nat := 22
def theMethod : MethodId := ⟨1, 2⟩
def args0 : Array Value := #[.int 5]
def aboutOver (below : List Frame) : State where
  vm := { classes := classes, interned := interned.toArray }
  heap := heap
  slotsUsed := slotsUsed
  threads := #[{ frames := .invoking theMethod args0 :: below }]
def below0 : List Frame := [.native { method := ⟨0, 0⟩, args := #[] }]
def about1 : State := aboutOver below0
def p0 : Program := .bare "" "" ""
def e0 : Env := launch0.env 0 0 0
theorem w_frames : about1.frames = Frame.invoking theMethod args0 :: below0 := rfl
set_option maxRecDepth 65536 in
theorem w_args : argsFit about1.vm theMethod args0 = true := by decide +kernel
set_option maxRecDepth 65536 in
theorem w_heap : heapFits about1 = true := by decide +kernel
set_option maxRecDepth 65536 in
theorem w_runnable : about1.curStatus? = some .runnable := by decide +kernel
set_option maxRecDepth 65536 in
theorem w_alone : about1.alone = true := by decide +kernel
set_option maxRecDepth 65536 in
theorem w_named : about1.methodNamed? x = some theMethod := by decide +kernel
set_option maxRecDepth 65536 in
theorem w_hears : about1.hears theMethod below0 = true := by decide +kernel
set_option maxRecDepth 65536 in
theorem w_ripe : about1.ripe theMethod args0 below0 = true := by decide +kernel
theorem w_running : about1.status = .running := rfl
set_option maxRecDepth 65536 in
theorem w_room : about1.hasRoom e0.platform room_1 = true :=
  launch0.hasRoom_least _ room_1 (by decide +kernel) (by decide +kernel) (by decide +kernel) (by decide +kernel) (by decide +kernel) (by decide +kernel)
theorem allAtoms_all (ts : List Jvm.Cond) (a : Array Jvm.Value) (st : Jvm.State) : (allAtoms ts).before a st = ts.all (fun c => c.before a st) := by
  induction ts with
  | nil => rfl
  | cons c t ih =>
    show (Jvm.Cond.and c (allAtoms t)).before a st = _
    rw [Jvm.Cond.before_and, ih, List.all_cons]
def words1 : List Jvm.Cond := Jvm.Cond.code x code maxLocals ret :: tables_1
/-- a 'code' word, met by the world's own term for the bytes: nothing is compared byte by byte -/
theorem code_word {y : MethodName} {bytes : ByteArray} {mx : Nat} {rt : Option FieldType} {a : Array Value} {s : State} {m : MethodId} {meth : Method} {c : Code} (h1 : s.methodNamed? y = some m) (h2 : s.vm.method? m = some meth) (h3 : meth.code = some c) (h4 : c.code = bytes)
    (h5 : (c.maxLocals == mx && c.exceptionTable.isEmpty && decide (c.maxStack ≤ mostOperands) && decide (meth.sig.returnType = rt) && !meth.locks && decide (parseMethodDescriptor y.desc = some meth.sig)) = true) : (Jvm.Cond.code y bytes mx rt).before a s = true := by
  simp only [Bool.and_eq_true, beq_iff_eq, Bool.not_eq_true', decide_eq_true_eq] at h5
  obtain ⟨⟨⟨⟨⟨g1, g2⟩, g3⟩, g4⟩, g5⟩, g6⟩ := h5
  simp [Cond.before, Cond.holds, Cond.value, h1, h2, h3, h4, g1, g2, g3, g4, g5, g6]
def isCode : Jvm.Cond → Bool
  | .code _ _ _ _ => true
  | _ => false
theorem all_split {L : List Jvm.Cond} {P : Jvm.Cond → Bool} (h1 : L.all (fun c => isCode c || P c) = true) (h2 : ∀ c ∈ L.filter isCode, P c = true) : L.all P = true := by
  refine List.all_eq_true.mpr fun c hc => ?_
  have h := List.all_eq_true.mp h1 c hc
  rcases Bool.eq_false_or_eq_true (isCode c) with hi | hi
  · exact h2 c (List.mem_filter.mpr ⟨hc, hi⟩)
  · simpa [hi] using h
set_option maxRecDepth 65536 in
theorem w_c0 : (Jvm.Cond.code x code maxLocals ret).before args0 about1 = true := code_word (m := ⟨1, 2⟩) (meth := k1m2) (c := k1c2) (by decide +kernel) rfl rfl rfl (by decide +kernel)
set_option maxRecDepth 65536 in
theorem w_c1 : (Jvm.Cond.code ({ cls := "com/example/tresord/tresord/keymodule/CheckKeyKind", name := "fromCode", desc := "(B)Lcom/example/tresord/tresord/keymodule/CheckKeyKind;" } : Jvm.MethodName) prog_6_method_6_code (5 : Nat) (Option.some (Jvm.ClassFile.FieldType.object "com/example/tresord/tresord/keymodule/CheckKeyKind"))).before args0 about1 = true := code_word (m := ⟨6, 2⟩) (meth := k6m2) (c := k6c2) (by decide +kernel) rfl rfl rfl (by decide +kernel)
set_option maxRecDepth 65536 in
theorem w_c2 : (Jvm.Cond.code ({ cls := "com/example/tresord/tresord/keymodule/CheckKeyKind", name := "values", desc := "()[Lcom/example/tresord/tresord/keymodule/CheckKeyKind;" } : Jvm.MethodName) prog_6_method_1_code (0 : Nat) (Option.some (Jvm.ClassFile.FieldType.array (Jvm.ClassFile.FieldType.object "com/example/tresord/tresord/keymodule/CheckKeyKind")))).before args0 about1 = true := code_word (m := ⟨6, 0⟩) (meth := k6m0) (c := k6c0) (by decide +kernel) rfl rfl rfl (by decide +kernel)
set_option maxRecDepth 65536 in
theorem w_c3 : (Jvm.Cond.code ({ cls := "com/example/tresord/tresord/keymodule/CheckKeyKindFromCodePinLaw", name := "expected", desc := "(I)Lcom/example/tresord/tresord/keymodule/CheckKeyKind;" } : Jvm.MethodName) method_2_code (1 : Nat) (Option.some (Jvm.ClassFile.FieldType.object "com/example/tresord/tresord/keymodule/CheckKeyKind"))).before args0 about1 = true := code_word (m := ⟨1, 1⟩) (meth := k1m1) (c := k1c1) (by decide +kernel) rfl rfl rfl (by decide +kernel)
set_option maxRecDepth 65536 in
theorem w_c4 : (Jvm.Cond.code ({ cls := "com/example/tresord/tresord/keymodule/CheckKeyKind", name := "code", desc := "()B" } : Jvm.MethodName) prog_6_method_5_code (1 : Nat) (Option.some Jvm.ClassFile.FieldType.byte)).before args0 about1 = true := code_word (m := ⟨6, 1⟩) (meth := k6m1) (c := k6c1) (by decide +kernel) rfl rfl rfl (by decide +kernel)
def codes1 : List Jvm.Cond := [Jvm.Cond.code x code maxLocals ret, Jvm.Cond.code ({ cls := "com/example/tresord/tresord/keymodule/CheckKeyKind", name := "fromCode", desc := "(B)Lcom/example/tresord/tresord/keymodule/CheckKeyKind;" } : Jvm.MethodName) prog_6_method_6_code (5 : Nat) (Option.some (Jvm.ClassFile.FieldType.object "com/example/tresord/tresord/keymodule/CheckKeyKind")), Jvm.Cond.code ({ cls := "com/example/tresord/tresord/keymodule/CheckKeyKind", name := "values", desc := "()[Lcom/example/tresord/tresord/keymodule/CheckKeyKind;" } : Jvm.MethodName) prog_6_method_1_code (0 : Nat) (Option.some (Jvm.ClassFile.FieldType.array (Jvm.ClassFile.FieldType.object "com/example/tresord/tresord/keymodule/CheckKeyKind"))), Jvm.Cond.code ({ cls := "com/example/tresord/tresord/keymodule/CheckKeyKindFromCodePinLaw", name := "expected", desc := "(I)Lcom/example/tresord/tresord/keymodule/CheckKeyKind;" } : Jvm.MethodName) method_2_code (1 : Nat) (Option.some (Jvm.ClassFile.FieldType.object "com/example/tresord/tresord/keymodule/CheckKeyKind")), Jvm.Cond.code ({ cls := "com/example/tresord/tresord/keymodule/CheckKeyKind", name := "code", desc := "()B" } : Jvm.MethodName) prog_6_method_5_code (1 : Nat) (Option.some Jvm.ClassFile.FieldType.byte)]
set_option maxRecDepth 65536 in
theorem codes_eq : words1.filter isCode = codes1 := rfl
theorem w_codes : ∀ c ∈ words1.filter isCode, c.before args0 about1 = true := by
  rw [codes_eq]
  intro c hc
  simp only [codes1, List.mem_cons, List.not_mem_nil, or_false] at hc
  rcases hc with rfl | rfl | rfl | rfl | rfl
  · exact w_c0
  · exact w_c1
  · exact w_c2
  · exact w_c3
  · exact w_c4
set_option maxRecDepth 65536 in
theorem w_t1 : (words1.take 24).all (fun c => isCode c || c.before args0 about1) = true := by decide +kernel
set_option maxRecDepth 65536 in
theorem w_t2 : (words1.drop 24).all (fun c => isCode c || c.before args0 about1) = true := by decide +kernel
theorem w_tables : (allAtoms (Jvm.Cond.code x code maxLocals ret :: tables_1)).before args0 about1 = true := by
  rw [allAtoms_all]
  show words1.all (fun c => c.before args0 about1) = true
  refine all_split ?_ w_codes
  rw [← List.take_append_drop 24 words1, List.all_append, w_t1, w_t2]
  rfl
set_option maxRecDepth 65536 in
theorem w_case : (Jvm.Cond.and given_1 narrow_1).before args0 about1 = true := by decide +kernel
theorem w_applies : (headSpec (Jvm.Cond.code x code maxLocals ret :: tables_1) room_1).applies x e0.platform about1 = true :=
  (Spec.applies_iff w_frames).mpr ⟨w_running, w_runnable, w_alone, w_named, w_hears, w_ripe, w_room, w_tables⟩
theorem atStart : AtStart classFile x code maxLocals ret World_1 tables_1 room_1 Calls_1 rest_1 Pre_1 launch0 p0 e0 about1 theMethod args0 below0 :=
  ⟨lists_1, trivial, launch0.admits_env _ _ _, launch0.least_env, fairChoices_fair.cas, fairChoices_fair.clock, w_frames, w_args, w_heap, w_applies, trivial, trivial, w_case⟩
end start1
theorem witness_1 : WitnessClaimed_1 := ⟨start1.p0, start1.e0, start1.about1, start1.theMethod, start1.args0, start1.below0, start1.atStart⟩
end Jvm.Pilot.@@N@@
