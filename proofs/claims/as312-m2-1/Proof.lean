import JvmDerived
import JvmDerived.Pilot.@@N@@Statement
import JvmDerived.Pilot.@@N@@Code
set_option linter.unusedVariables false
set_option linter.unusedSimpArgs false
namespace Jvm.RoadKit
open Sem ClassFile Op Lib Jvm.Stand Jvm.Free Jvm.LawKit
section New
variable {p : Program} {l : Launch} {e : Env} {R : Room} {s : State} {m : MethodId} {args : Array Value} {below : List Frame} {meth : Method} {c : Code} {T : State} {locs : List Loc} {cells slots : Nat}
theorem retI (X : Stand p l e R s m args below meth c T locs cells slots) (hx : p.tables.exec = Jvm.exec) {pc : Nat} {Ls : Array Slot} {z : Int32} {rest : List Value} (hret : meth.sig.returnType = some .int) (hd : decode c.code pc = .ok (.ireturn, 1)) {fs : List Frame}
    (hl : ∀ (f : JFrame) (acts : List Action), f.method = m → f.locked = none → f.entered = [] → (doReturn e (T.setTop f) acts (some (.int z))).1 = T.setFrames fs) : Steps p.tables e below (T.setTop (mkF m pc Ls (.int z :: rest))) (T.setFrames fs) := by
  have hm' : T.vm.method? m = some meth := X.method'
  have hn : narrow .int (.int z) = .int z := rfl
  show Steps p.tables e below (T.setTop { method := m, pc := pc, locals := Ls, stack := _ :: rest, locked := none }) _
  jvm_step X.here [X.here.top, hx, hd, hm', hret, hn]
  first | (intro acts; rw [hl _ acts rfl rfl rfl]) | rw [hl _ _ rfl rfl rfl]
  exact Steps.refl _
end New
end Jvm.RoadKit
namespace Jvm.Pilot.@@N@@
open Jvm Jvm.ClassFile Sem Op Lib Jvm.Free Jvm.Stand Jvm.LawKit Jvm.RoadKit Bundle Jvm.Pilot.@@N@@.Jvm.D
theorem own_selects {s : State} {args : Array Value} {n : Nat} {y : MethodName} (hy : y.cls ≠ "java/lang/invoke/MethodHandle" ∧ y.cls ≠ "java/lang/invoke/VarHandle") (hins : (Jvm.Cond.instantiable y.cls n).before args s = true) (hpriv : (Jvm.Cond.privateMethod y).before args s = true) (hinst : (Jvm.Cond.instanceMethod y).before args s = true) :
    (Jvm.Cond.selects y.cls y y).before args s = true := by
  obtain ⟨c, k, hc, hk, -, hniab, -, -⟩ := Cond.instantiable_spec hins
  have hni : k.isInterface = false := (Bool.or_eq_false_iff.mp hniab).1
  obtain ⟨mk, methM, hnamed, hmethM, -, -⟩ := Cond.instanceMethod_spec hinst
  have hfound : s.methodFound? y.cls y.name y.desc = some mk := State.methodFound?_of_named hnamed hy
  have hcls : mk.cls = c := Option.some.inj ((findClass_of_methodNamed hnamed).symm.trans hc)
  have hsel : selectMethod {} s.vm c mk = .method mk := selectMethod_private hmethM (Cond.privateMethod_at hpriv mk methM hnamed hmethM)
  simp only [Cond.before, Cond.holds, Cond.value, hc, hfound, hnamed, hsel, hcls, hk]
  simp; exact hni
/-- invokespecial of a method that the direct superclass itself declares, whether the tables call that class an interface or not -/
theorem own_wp_up {Q : Unit → Pre} {E : CtlPost} {e : Env} {d : Bool} {acts : List Action} {s : State} {f : JFrame} {index a : Nat} {m : MethodId} {k ck : Class} {meth : Method} {args rest : List Value}
    (hs : s.topJava?.isSome) (hnamed : namesResolved s.vm f.method.cls index m.cls) (hr : s.vm.methodReady f.method.cls index m)
    (hck : s.vm.classes[f.method.cls]? = some ck) (hcki : ck.isInterface = false) (hsup : ck.super = some m.cls)
    (hk : s.vm.classes[m.cls]? = some k) (hm : s.vm.method? m = some meth) (hname : (meth.name == "<init>") = false) (hstatic : meth.isStatic = false) (habs : meth.isAbstract = false)
    (hfound : lookupSpecial s.vm m.cls meth.name meth.desc = .method m)
    (hlen : args.length = meth.sig.parameters.length) (hstack : f.stack = args.reverse ++ .ref a :: rest) :
    wp (invokespecial.sem index) Q E e d acts (s.setTop f) ↔ E (.invoke m (.ref a :: args).toArray) acts (s.setTop { f with stack := rest }) := by
  obtain ⟨kc, cf, ci, n, h1, h2, h3, h4⟩ := hnamed
  have hpre : ∀ {Q' : ClassId → Pre} {d' : Bool} {acts' : List Action}, wp (Jvm.refClassAt index) Q' E e d' acts' (s.setTop f) ↔ Q' m.cls d' acts' (s.setTop f) := by
    intro Q' d' acts'
    rcases h3 with h3 | h3 <;>
      simp [Jvm.refClassAt, Jvm.constantAt, State.method?_setTop f hs, h1, h2, h3, W.resolveClassAt_ready (State.method?_setTop f hs) h4]
  simp only [invokespecial.sem, wp_bind', W.resolveMethodAt_ready (State.method?_setTop f hs) hr]
  simp only [W.theMethod, State.vm_setTop, hm, Option.some.injEq, exists_eq_left', wp_bind', hpre]
  simp [hs, hname, hstatic, habs, hck, hcki, hsup, hk, hm, hfound, State.method?_setTop f hs, Jvm.popArgs, ← hlen, popN_top hs hstack]
theorem own_superBack {p : Program} {l : Launch} {e : Env} {R : Room} {s : State} {m : MethodId} {args : Array Value} {below : List Frame} {meth : Method} {c : Code} {T : State} {locs : List Loc} {cells slots : Nat} {Z : State} {a0 : Array Value}
    (X : Stand p l e R s m args below meth c T locs cells slots) (hx : p.tables.exec = Jvm.exec) (hZ : Z.Warmed39 s.vm) {own : String} {index : Nat} {y : MethodName} (hown : s.vm.findClass own = some m.cls) (w1 : (Jvm.Cond.methodLink own index y).before a0 Z = true)
    (w3 : (Jvm.Cond.instanceMethod y).before a0 Z = true) (w4 : (Jvm.Cond.superclass own y.cls).before a0 Z = true) (hn : (y.name == "<init>") = false) (hnot : y.cls ≠ "java/lang/invoke/MethodHandle" ∧ y.cls ≠ "java/lang/invoke/VarHandle")
    {W : Nat} {Pre : Pt → Array Value → Prop} {Post : Pt → Array Value → Option Value → Pt → Prop} (hK : Back l R p e below s args y 3 W Pre Post)
    {g : JFrame} (hg : g.method = m) (hsize : g.locals.size = c.maxLocals) {bytes : ByteArray} {maxL : Nat} {ret : Option FieldType} (wc : (Jvm.Cond.code y bytes maxL ret).before a0 Z = true) {a : Addr} {argsL rest : List Value}
    (hlen : ∀ sig, parseMethodDescriptor y.desc = some sig → argsL.length = sig.parameters.length) (hstack : g.stack = argsL.reverse ++ .ref a :: rest) (hW : 2 * g.monitorRoom + (rest.map fun v => v.category).sum ≤ W)
    (hdg : decode c.code g.pc = .ok (.invokespecial index, 3)) (hpre : ∀ vm₁, s.WarmedH vm₁ → Pre ⟨T.setVm vm₁, locs, cells, slots⟩ (.ref a :: argsL).toArray) :
    ∃ (v : Option Value) (vm₁ : Vm) (B : Pt), s.WarmedH vm₁ ∧ Stand p l e R s m args below meth c B.U B.locs B.cells B.slots ∧ Post ⟨T.setVm vm₁, locs, cells, slots⟩ (.ref a :: argsL).toArray v B ∧
      Steps p.tables e below (T.setTop g) (B.U.setTop { g with pc := g.pc + 3, stack := v.toList ++ rest }) := by
  subst hg
  have hpl : e.platform.magicAccessors = ({} : Platform).magicAccessors := by rw [X.admits.platform]
  have hW0 := X.warmed
  obtain ⟨mk, methM, hnamed, hmethM, hstM, habM⟩ := Cond.instanceMethod_spec (mv (args := args) hZ w3)
  obtain ⟨m2, cM, q1, -, -, -, -, -, -, hsig⟩ := Cond.code_spec hnamed (mv (args := args) hZ wc)
  cases hmethM.symm.trans q1
  have hcn := findClass_of_methodNamed hnamed
  obtain ⟨dk, hd, -⟩ := Vm.findClass_spec hown
  obtain ⟨kp, hp, hpn⟩ := className_of_methodNamed hnamed
  obtain ⟨hnm, hdm⟩ := name_of_methodNamed hnamed hmethM
  have ws := mv (args := args) hZ w4
  simp only [Cond.before, Cond.holds, Cond.value, hown, hcn, hd, hp, Option.bind_some, Option.map_some] at ws
  have ws' : ((dk.super = some mk.cls ∧ dk.kind = .ordinary) ∧ kp.kind = .ordinary) ∧ dk.isInterface = false := by simpa using ws
  obtain ⟨ci, hl, hright⟩ := Cond.methodLink_spec hown hnamed (mv (args := args) hZ w1) e.platform hpl
  have hE : s.MethodEntry e T.vm g.method.cls index mk ci := State.methodEntry hW0 hl hright fun k hk => by
    cases hp.symm.trans hk
    rw [hpn]; exact hnot
  obtain ⟨dk', cf, nt, _, _, via, _, _, hd', hcf, hcp, -⟩ := hl.here
  cases hd.symm.trans hd'
  have hcp' : cf.constantPool[index]? = some (.methodref ci nt) ∨ cf.constantPool[index]? = some (.interfaceMethodref ci nt) := by
    cases via
    · exact Or.inl (by simpa using hcp)
    · exact Or.inr (by simpa using hcp)
  have hwarm := hE.warmed
  have hreadyM := hE.ready
  have hreadyC := hE.classReady
  generalize hvm₂ : T.vm.called g.method.cls ci index mk = vm₂ at hwarm hreadyM hreadyC
  obtain ⟨dk₂, hdk₂, hed₂⟩ := hwarm.alike.2.2 _ _ hd
  obtain ⟨kO₂, hkO₂, heO₂⟩ := hwarm.alike.2.2 _ _ hp
  have hmO₂ : vm₂.method? mk = some methM := by rw [hwarm.alike.method?]; exact hmethM
  have hfound : lookupSpecial vm₂ mk.cls methM.name methM.desc = .method mk := by
    rw [hwarm.alike.lookupSpecial, hnm, hdm]; exact lookupSpecial_of_named hnamed hmethM hstM
  have hAt₂ : At (T.setVm vm₂) g.method c below := X.here.setVm (hW0.alike.symm.trans hwarm.alike)
  have X₁ := X.noted hwarm
  have hstep : ∀ target, (∀ acts, Steps p.tables e below (doInvoke e ((T.setVm vm₂).setTop { g with stack := rest }) acts mk (.ref a :: argsL).toArray).1 target) → Steps p.tables e below (T.setTop g) target := fun target hrest => by
    jvm_step X.here [hx, hdg, invokespecial.wp_cold (e := e) (s := T) (s₀ := s) (f := g) (meth := methM) X.here.top hE hd hcf hcp' hmethM, hvm₂,
      own_wp_up (e := e) (s := T.setVm vm₂) (k := kO₂) (ck := dk₂) (meth := methM) (m := mk) (a := a) (args := argsL) (rest := rest) (f := g)
        hAt₂.top ⟨dk₂, cf, ci, nt, hdk₂, by rw [hed₂]; exact hcf, hcp', hreadyC⟩ hreadyM hdk₂ (by rw [hed₂]; exact ws'.2) (by rw [hed₂]; exact ws'.1.1.1) hkO₂ hmO₂ (by rw [hnm]; exact hn) hstM habM hfound (hlen _ hsig) hstack]
    exact hrest
  obtain ⟨v, B, X', hpost, hsteps⟩ := hK g.method meth c ⟨T.setVm vm₂, locs, cells, slots⟩ { g with stack := rest } (.invokespecial index) mk (.ref a :: argsL).toArray X₁ rfl hsize hdg hW (X₁.named hnamed) (hpre vm₂ X₁.warmed)
  exact ⟨v, vm₂, B, X₁.warmed, X', hpost, (hstep _ fun acts => by rw [doInvoke_state]; exact Steps.refl _).trans hsteps⟩
/-- the OpenTags object at t, its builder at b (empty), its marks at mk -/
def own_O (Z : State) (h : Heap) (t b mk : Addr) (cn hl : Int32) : Prop := Exa Z h t "org/codeweft/fhir/OpenTags" ∧ Fld Z h t "org/codeweft/fhir/OpenTags" "count" "I" (.int cn) ∧ Fld Z h t "org/codeweft/fhir/OpenTags" "held" "I" (.int hl) ∧ Fld Z h t "org/codeweft/fhir/OpenTags" "namesEnd" "I" (.int (0 : Int32)) ∧ Fld Z h t "org/codeweft/fhir/OpenTags" "declarations" "Ljava/lang/StringBuilder;" (.ref b) ∧ Fld Z h t "org/codeweft/fhir/OpenTags" "marks" "[I" (.ref mk) ∧ Exa Z h b "java/lang/StringBuilder" ∧ Fld Z h b "java/lang/AbstractStringBuilder" "count" "I" (.int (0 : Int32))
/-- the array of marks: 96 places, the first six by v -/
def own_M (Z : State) (h : Heap) (mk : Addr) (v : Nat → Int32) : Prop := ∃ cl : Cell, Arr Z h mk cl .int ∧ cl.slots.size = 96 ∧ ∀ j, j < 6 → cl.slots[j]? = some (.int (v j))
theorem own_set {cl : Cell} {v : Nat → Int32} (S : cl.slots.size = 96) (H : ∀ j, j < 6 → cl.slots[j]? = some (.int (v j))) (i : Nat) (x : Int32) (hi : i < 6) :
    (cl.setSlot i (.int x)).slots.size = 96 ∧ ∀ j, j < 6 → (cl.setSlot i (.int x)).slots[j]? = some (.int (if j = i then x else v j)) := by
  refine ⟨by rw [sz_set]; exact S, fun j hj => ?_⟩
  show (cl.slots.setIfInBounds i (.int x))[j]? = _
  by_cases z : i = j
  · subst z; rw [Array.getElem?_setIfInBounds_self_of_lt (by omega), if_pos rfl]
  · rw [Array.getElem?_setIfInBounds_ne z, if_neg (Ne.symm z)]; exact H j hj
/-- what begin() leaves in the marks -/
def own_u (c : Nat) (hl : Int32) (v : Nat → Int32) : Nat → Int32 := fun j => if j = 3 * c + 2 then hl else if j = 3 * c + 1 then 0 else if j = 3 * c then 0 else v j
theorem d9_0 : decode jdk_68_method_6_code 0 = .ok (.aload_n 0, 1) := by decide +kernel
theorem d9_1 : decode jdk_68_method_6_code 1 = .ok (.getfield 79, 3) := by decide +kernel
theorem d9_4 : decode jdk_68_method_6_code 4 = .ok (.ireturn, 1) := by decide +kernel
theorem pn_9 : plainName "java/lang/AbstractStringBuilder" = true := by first | (simp [plainName, overriddenIn]; done) | decide +kernel
theorem ef_9 (m : MethodId) (x0 : Addr) : entryFrame m #[(.ref x0)] 1 = mkF m 0 #[.val (.ref x0)] [] := by first | (simp [entryFrame, mkF, argsToLocals, Value.category]; done) | rfl
def Q9 (Z : State) (a1 : Addr) (h0 : Heap) (n0 : Nat) (v : Option Value) (h : Heap) (L : List Loc) : Prop := v = some (.int (0 : Int32)) ∧ Fr n0 L ∧ h = h0
set_option maxRecDepth 65536 in
set_option maxHeartbeats 40000000 in
theorem rm9 (l : Launch) (Z : State) (a0 : Array Value) (hw : ∀ d ∈ tables_1, d.before a0 Z = true) (ws : List Jvm.Cond) (a1 : Addr) (h0 : Heap) (n0 : Nat) (Z0 : n0 ≤ h0.size) (F_count_a1 : Fld Z h0 a1 "java/lang/AbstractStringBuilder" "count" "I" (.int (0 : Int32))) :
    MetFree l (⟨"java/lang/AbstractStringBuilder", "length", "()I"⟩ : MethodName) (head1 (Jvm.Cond.code (⟨"java/lang/AbstractStringBuilder", "length", "()I"⟩ : MethodName) jdk_68_method_6_code 1 (some .int) :: ws) ({ frames := 0, cells := 0, slots := 0, locals := 0 } : Room)) (fun a U => a = #[(.ref a1)] ∧ Z.Warmed39 U.vm ∧ U.heap = h0) (fun _ _ _ _ _ => True) (fun _ U o U' => ∃ v L, o = .returned v ∧ Q9 Z a1 h0 n0 v U'.heap L ∧ FrameEnd U o U' L ({ frames := 0, cells := 0, slots := 0, locals := 0 } : Room).cells ({ frames := 0, cells := 0, slots := 0, locals := 0 } : Room).slots) := by
  refine MetFree.of_bodySF (plainFor_of_name pn_9) hisR ?_
  intro p e s m args below meth c s₁ Bd hml0 hP hK
  obtain ⟨rfl, hZ, hh⟩ := hP
  have hx := Bd.exec
  have hby := Bd.bytes
  have hml : c.maxLocals = 1 := hml0
  have hown : s.vm.findClass "java/lang/AbstractStringBuilder" = some m.cls := findClass_of_methodNamed Bd.named
  have hnm := (name_of_methodNamed Bd.named Bd.method).1
  have X0 : Stand p l e ({ frames := 0, cells := 0, slots := 0, locals := 0 } : Room) s m #[(.ref a1)] below meth c s₁ [] 0 0 := Stand.of_body Bd
  have e0 : s₁.heap = h0 := by rw [← hh, Bd.state]; rfl
  have N0 := Fr.nil n0
  have pre0 : ∀ t, Steps p.tables e below (s₁.setTop (mkF m 0 #[.val (.ref a1)] [])) t → Steps p.tables e below (s₁.setTop (entryFrame m #[(.ref a1)] 1)) t := fun t k => castTop (ef_9 m a1) k
  -- 3. LAWS
  obtain ⟨T3, X3, e3, st3⟩ := getF X0 hx hZ hown (host := "") (Or.inl (hw _ (List.mem_of_getElem? (i := 68) rfl))) Via.refl e0 F_count_a1 (g := (mkF m 1 #[.val (.ref a1)] [(.ref a1)])) rfl rfl (hb hby d9_1)
  obtain ⟨fs, hr, hrun, hended, hW, hsame⟩ := X3.leave (v := some (.int (0 : Int32))) (fun h => by rw [Bd.returns] at h; cases h)
  refine ⟨_, _, pre0 _ ?_, hrun, hended, _, _, rfl, ?_, ⟨_, rfl⟩, hW, hsame.mono (by decide) (by decide)⟩
  -- 4. STEPS
  · show Steps p.tables e below (s₁.setTop (mkF m 0 #[.val (.ref a1)] [])) _
    refine XS.aloadN X0.here hx rfl (hb hby d9_0) rfl rfl ?_
    show Steps p.tables e below (s₁.setTop (mkF m 1 #[.val (.ref a1)] [(.ref a1)])) _
    refine st3 _ ?_
    show Steps p.tables e below (T3.setTop (mkF m 4 #[.val (.ref a1)] [(.int (0 : Int32))])) _
    exact retI X3 hx Bd.returns (hb hby d9_4) hr      -- retI stands in the head ('lawwalk <made dir>' prints it)
  · show Q9 Z a1 h0 n0 _ T3.heap _
    rw [e3]
    exact ⟨rfl, N0, rfl⟩
theorem d8_0 : decode jdk_67_method_93_code 0 = .ok (.aload_n 0, 1) := by decide +kernel
theorem d8_1 : decode jdk_67_method_93_code 1 = .ok (.invokespecial 343, 3) := by decide +kernel
theorem d8_4 : decode jdk_67_method_93_code 4 = .ok (.ireturn, 1) := by decide +kernel
theorem pn_8 : plainName "java/lang/StringBuilder" = true := by first | (simp [plainName, overriddenIn]; done) | decide +kernel
theorem pd_8_2 : parseMethodDescriptor "()I" = some ⟨[], some .int⟩ := by decide +kernel
theorem ef_8 (m : MethodId) (x0 : Addr) : entryFrame m #[(.ref x0)] 1 = mkF m 0 #[.val (.ref x0)] [] := by first | (simp [entryFrame, mkF, argsToLocals, Value.category]; done) | rfl
def Q8 (Z : State) (a1 : Addr) (h0 : Heap) (n0 : Nat) (v : Option Value) (h : Heap) (L : List Loc) : Prop := v = some (.int (0 : Int32)) ∧ Fr n0 L ∧ h = h0
set_option maxRecDepth 65536 in
set_option maxHeartbeats 40000000 in
theorem rm8 (l : Launch) (Z : State) (a0 : Array Value) (hw : ∀ d ∈ tables_1, d.before a0 Z = true) (ws : List Jvm.Cond) (a1 : Addr) (h0 : Heap) (n0 : Nat) (Z0 : n0 ≤ h0.size) (F_1 : Fld Z h0 a1 "java/lang/AbstractStringBuilder" "count" "I" (.int (0 : Int32))) :
    MetFree l (⟨"java/lang/StringBuilder", "length", "()I"⟩ : MethodName) (head1 (Jvm.Cond.code (⟨"java/lang/StringBuilder", "length", "()I"⟩ : MethodName) jdk_67_method_93_code 1 (some .int) :: ws) ({ frames := 1, cells := 0, slots := 0, locals := 12 } : Room)) (fun a U => a = #[(.ref a1)] ∧ Z.Warmed39 U.vm ∧ U.heap = h0) (fun _ _ _ _ _ => True) (fun _ U o U' => ∃ v L, o = .returned v ∧ Q8 Z a1 h0 n0 v U'.heap L ∧ FrameEnd U o U' L ({ frames := 1, cells := 0, slots := 0, locals := 12 } : Room).cells ({ frames := 1, cells := 0, slots := 0, locals := 12 } : Room).slots) := by
  refine MetFree.of_bodySF (plainFor_of_name pn_8) hisR ?_
  intro p e s m args below meth c s₁ Bd hml0 hP hK
  obtain ⟨rfl, hZ, hh⟩ := hP
  have hx := Bd.exec
  have hby := Bd.bytes
  have hml : c.maxLocals = 1 := hml0
  have hown : s.vm.findClass "java/lang/StringBuilder" = some m.cls := findClass_of_methodNamed Bd.named
  have hnm := (name_of_methodNamed Bd.named Bd.method).1
  have X0 : Stand p l e ({ frames := 1, cells := 0, slots := 0, locals := 12 } : Room) s m #[(.ref a1)] below meth c s₁ [] 0 0 := Stand.of_body Bd
  have e0 : s₁.heap = h0 := by rw [← hh, Bd.state]; rfl
  have N0 := Fr.nil n0
  have pre0 : ∀ t, Steps p.tables e below (s₁.setTop (mkF m 0 #[.val (.ref a1)] [])) t → Steps p.tables e below (s₁.setTop (entryFrame m #[(.ref a1)] 1)) t := fun t k => castTop (ef_8 m a1) k
  -- 3. LAWS
  -- pc 1: super.length: rm9
  obtain ⟨_, _, ⟨T2, L2, k2, n2⟩, -, X2, ⟨Lc2, hQ2, l2, y2, z2⟩, st2⟩ := own_superBack X0 hx hZ (y := (⟨"java/lang/AbstractStringBuilder", "length", "()I"⟩ : MethodName)) hown (hw _ (List.mem_of_getElem? (i := 63) rfl)) (hw _ (List.mem_of_getElem? (i := 64) rfl)) (hw _ (List.mem_of_getElem? (i := 65) rfl)) (by decide) (by decide) (backOf (W := 0) (rm9 l Z a0 hw [] a1 h0 n0 Z0 F_1) hZ (hw _ (List.mem_of_getElem? (i := 67) rfl)) (hw _ (List.mem_of_getElem? (i := 19) rfl)) (by decide) (by decide)) (g := (mkF m 1 #[.val (.ref a1)] [(.ref a1)])) rfl (by rw [hml]; rfl) (hw _ (List.mem_of_getElem? (i := 67) rfl)) (argsL := []) (rest := []) (lenOf pd_8_2 rfl) rfl (by show 2 * 0 + _ ≤ _; exact Nat.le_of_eq rfl) (hb hby d8_1) (fun _ _ => ⟨rfl, e0, (by decide : 0 + 0 ≤ _), (by decide : 0 + 0 ≤ _)⟩)
  dsimp only [Pt.U, Pt.locs, Pt.cells, Pt.slots] at X2 l2 y2 z2 st2 hQ2
  subst l2 y2 z2
  obtain ⟨rfl, N2q, e2⟩ := hQ2      -- what it returned, that it wrote nothing old, and the rest of your Q9
  have N2 := Fr.app N0 N2q
  obtain ⟨fs, hr, hrun, hended, hW, hsame⟩ := X2.leave (v := some (.int (0 : Int32))) (fun h => by rw [Bd.returns] at h; cases h)
  refine ⟨_, _, pre0 _ ?_, hrun, hended, _, _, rfl, ?_, ⟨_, rfl⟩, hW, hsame.mono (by decide) (by decide)⟩
  -- 4. STEPS
  · show Steps p.tables e below (s₁.setTop (mkF m 0 #[.val (.ref a1)] [])) _
    refine XS.aloadN X0.here hx rfl (hb hby d8_0) rfl rfl ?_
    show Steps p.tables e below (s₁.setTop (mkF m 1 #[.val (.ref a1)] [(.ref a1)])) _
    refine st2.trans ?_
    show Steps p.tables e below (T2.setTop (mkF m 4 #[.val (.ref a1)] [(.int (0 : Int32))])) _
    exact retI X2 hx Bd.returns (hb hby d8_4) hr      -- retI stands in the head ('lawwalk <made dir>' prints it)
  · show Q8 Z a1 h0 n0 _ T2.heap _
    exact ⟨rfl, N2, e2⟩
theorem d4_0 : decode jdk_68_method_2_code 0 = .ok (.aload_n 0, 1) := by decide +kernel
theorem d4_1 : decode jdk_68_method_2_code 1 = .ok (.invokespecial 3, 3) := by decide +kernel
theorem d4_4 : decode jdk_68_method_2_code 4 = .ok (.getstatic 18, 3) := by decide +kernel
theorem d4_7 : decode jdk_68_method_2_code 7 = .ok (.ifCond .eq 18, 3) := by decide +kernel
theorem d4_10 : decode jdk_68_method_2_code 10 = .ok (.aload_n 0, 1) := by decide +kernel
theorem d4_11 : decode jdk_68_method_2_code 11 = .ok (.iload_n 1, 1) := by decide +kernel
theorem d4_12 : decode jdk_68_method_2_code 12 = .ok (.newarray .byte, 2) := by decide +kernel
theorem d4_14 : decode jdk_68_method_2_code 14 = .ok (.putfield 15, 3) := by decide +kernel
theorem d4_17 : decode jdk_68_method_2_code 17 = .ok (.aload_n 0, 1) := by decide +kernel
theorem d4_18 : decode jdk_68_method_2_code 18 = .ok (.iconst 0, 1) := by decide +kernel
theorem d4_19 : decode jdk_68_method_2_code 19 = .ok (.putfield 22, 3) := by decide +kernel
theorem d4_22 : decode jdk_68_method_2_code 22 = .ok (.goto 16, 3) := by decide +kernel
theorem d4_38 : decode jdk_68_method_2_code 38 = .ok (.return_, 1) := by decide +kernel
theorem pn_4 : plainName "java/lang/AbstractStringBuilder" = true := by first | (simp [plainName, overriddenIn]; done) | decide +kernel
theorem ef_4 (m : MethodId) (x0 : Addr) (x1 : Int32) : entryFrame m #[(.ref x0), (.int x1)] 2 = mkF m 0 #[.val (.ref x0), .val (.int x1)] [] := by first | (simp [entryFrame, mkF, argsToLocals, Value.category]; done) | rfl
def Q4 (Z : State) (a1 : Addr) (h0 : Heap) (n0 : Nat) (v : Option Value) (h : Heap) (L : List Loc) : Prop := v = none ∧ Fr n0 L ∧ Keep h0 h [a1] ∧ Exa Z h a1 "java/lang/StringBuilder" ∧ Fld Z h a1 "java/lang/AbstractStringBuilder" "count" "I" (.int (0 : Int32))
set_option maxRecDepth 65536 in
set_option maxHeartbeats 40000000 in
theorem rm4 (l : Launch) (Z : State) (a0 : Array Value) (hw : ∀ d ∈ tables_1, d.before a0 Z = true) (ws : List Jvm.Cond) (a1 : Addr) (w4 : Int32) (u_value_a1 : Value) (u_coder_a1 : Value) (h0 : Heap) (n0 : Nat) (Z0 : n0 ≤ h0.size) (S_COMPACT_STRINGS : Sta Z h0 "java/lang/String" "COMPACT_STRINGS" "Z" (.int w4)) (E_a1 : Exa Z h0 a1 "java/lang/StringBuilder") (F_count_a1 : Fld Z h0 a1 "java/lang/AbstractStringBuilder" "count" "I" (.int (0 : Int32))) (F_value_a1 : Fld Z h0 a1 "java/lang/AbstractStringBuilder" "value" "[B" u_value_a1) (g_a1 : n0 ≤ a1) (F_coder_a1 : Fld Z h0 a1 "java/lang/AbstractStringBuilder" "coder" "B" u_coder_a1) (hc7 : ¬ (w4 = (0 : Int32))) :
    MetFree l (⟨"java/lang/AbstractStringBuilder", "<init>", "(I)V"⟩ : MethodName) (head1 (Jvm.Cond.code (⟨"java/lang/AbstractStringBuilder", "<init>", "(I)V"⟩ : MethodName) jdk_68_method_2_code 2 none :: ws) ({ frames := 1, cells := 1, slots := 16, locals := 12 } : Room)) (fun a U => a = #[(.ref a1), (.int (16 : Int32))] ∧ Z.Warmed39 U.vm ∧ U.heap = h0) (fun _ _ _ _ _ => True) (fun _ U o U' => ∃ v L, o = .returned v ∧ Q4 Z a1 h0 n0 v U'.heap L ∧ FrameEnd U o U' L ({ frames := 1, cells := 1, slots := 16, locals := 12 } : Room).cells ({ frames := 1, cells := 1, slots := 16, locals := 12 } : Room).slots) := by
  refine MetFree.of_bodySF (plainFor_of_name pn_4) hisR ?_
  intro p e s m args below meth c s₁ Bd hml0 hP hK
  obtain ⟨rfl, hZ, hh⟩ := hP
  have hx := Bd.exec
  have hby := Bd.bytes
  have hml : c.maxLocals = 2 := hml0
  have hown : s.vm.findClass "java/lang/AbstractStringBuilder" = some m.cls := findClass_of_methodNamed Bd.named
  have hnm := (name_of_methodNamed Bd.named Bd.method).1
  have X0 : Stand p l e ({ frames := 1, cells := 1, slots := 16, locals := 12 } : Room) s m #[(.ref a1), (.int (16 : Int32))] below meth c s₁ [] 0 0 := Stand.of_body Bd
  have e0 : s₁.heap = h0 := by rw [← hh, Bd.state]; rfl
  have N0 := Fr.nil n0
  have pre0 : ∀ t, Steps p.tables e below (s₁.setTop (mkF m 0 #[.val (.ref a1), .val (.int (16 : Int32))] [])) t → Steps p.tables e below (s₁.setTop (entryFrame m #[(.ref a1), (.int (16 : Int32))] 2)) t := fun t k => castTop (ef_4 m a1 (16 : Int32)) k
  -- 3. LAWS
  obtain ⟨T3, X3, e3, st3⟩ := initO X0 hx hZ hown (hw _ (List.mem_of_getElem? (i := 21) rfl)) (hw _ (List.mem_of_getElem? (i := 7) rfl)) (hw _ (List.mem_of_getElem? (i := 8) rfl)) e0 (g := (mkF m 1 #[.val (.ref a1), .val (.int (16 : Int32))] [(.ref a1)])) rfl (by rw [hml]; rfl) rfl (hb hby d4_1) (by decide) (W := 0) (by show 2 * 0 + _ ≤ _; exact Nat.le_of_eq rfl) (by decide)
  obtain ⟨T5, X5, e5, st5⟩ := getS2 X3 hx hZ hown (host := "") (Or.inl (hw _ (List.mem_of_getElem? (i := 22) rfl))) Via.refl e3 S_COMPACT_STRINGS (g := (mkF m 4 #[.val (.ref a1), .val (.int (16 : Int32))] [])) rfl (hb hby d4_4)
  obtain ⟨T6, h6, k6, X6, e6, E6, A6, st6⟩ := newP X5 hx hZ (hw _ (List.mem_of_getElem? (i := 24) rfl)) e5 (g := (mkF m 12 #[.val (.ref a1), .val (.int (16 : Int32))] [(.int (16 : Int32)), (.ref a1)])) rfl (hb hby d4_12) rfl (by decide) (cap := 16) (by decide) (by decide) (by decide) (by decide)
  obtain ⟨b6, g6⟩ : ∃ z, z = h0.size := ⟨_, rfl⟩      -- the fresh array's address
  rw [← g6] at A6 st6
  have g_b6 : n0 ≤ b6 := Nat.le_trans Z0 (Nat.le_of_eq g6.symm)
  have sz_b6 : h0.size ≤ b6 := (Nat.le_trans (Keep.refl h0 [a1]).1 (Nat.le_of_eq g6.symm))
  have K6 : Keep h0 h6 [a1] := (Keep.refl h0 [a1]).ext E6
  obtain ⟨T7, h7, X7, e7, W7, st7⟩ := putF X6 hx hZ hown (host := "") (Or.inl (hw _ (List.mem_of_getElem? (i := 25) rfl))) Via.refl e6 (F_value_a1.ext E6) (E_a1.ext E6) (Or.inl (hw _ (List.mem_of_getElem? (i := 26) rfl))) (hw _ (List.mem_of_getElem? (i := 10) rfl)) (ty := (.array .byte)) (by decide) rfl rfl (g := (mkF m 14 #[.val (.ref a1), .val (.int (16 : Int32))] [(.ref b6), (.ref a1)])) rfl rfl (hb hby d4_14)
  have Fw7 := (F_value_a1.ext E6).same W7      -- the field now holds (.ref b6)
  have K7 : Keep h0 h7 [a1] := K6.wr W7 (Or.inl (List.mem_of_getElem? (i := 0) rfl))
  have N7 := Fr.snoc X7 N0 g_a1
  obtain ⟨T8, h8, X8, e8, W8, st8⟩ := putFN X7 hx hZ hown (hw _ (List.mem_of_getElem? (i := 27) rfl)) Via.refl e7 ((F_coder_a1.ext E6).other W7 (Or.inr (slot_ne (Or.inl (hw _ (List.mem_of_getElem? (i := 28) rfl))) (Or.inl (hw _ (List.mem_of_getElem? (i := 26) rfl))) (by decide) (t := .byte) (t' := (.array .byte)) (by decide) (by decide)))) ((E_a1.ext E6).wr W7) (Or.inl (hw _ (List.mem_of_getElem? (i := 28) rfl))) (hw _ (List.mem_of_getElem? (i := 10) rfl)) (ty := .byte) (v' := (.int (0 : Int32))) (by decide) rfl (by decide) (g := (mkF m 19 #[.val (.ref a1), .val (.int (16 : Int32))] [(.int (0 : Int32)), (.ref a1)])) rfl rfl (hb hby d4_19)
  have Fw8 := ((F_coder_a1.ext E6).other W7 (Or.inr (slot_ne (Or.inl (hw _ (List.mem_of_getElem? (i := 28) rfl))) (Or.inl (hw _ (List.mem_of_getElem? (i := 26) rfl))) (by decide) (t := .byte) (t' := (.array .byte)) (by decide) (by decide)))).same W8      -- the field now holds (.int (0 : Int32))
  have K8 : Keep h0 h8 [a1] := K7.wr W8 (Or.inl (List.mem_of_getElem? (i := 0) rfl))
  have N8 := Fr.snoc X8 N7 g_a1
  obtain ⟨fs, hr, hrun, hended, hW, hsame⟩ := X8.leave (v := none) (fun _ => rfl)
  refine ⟨_, _, pre0 _ ?_, hrun, hended, _, _, rfl, ?_, ⟨_, rfl⟩, hW, hsame.mono (by decide) (by decide)⟩
  -- 4. STEPS
  · show Steps p.tables e below (s₁.setTop (mkF m 0 #[.val (.ref a1), .val (.int (16 : Int32))] [])) _
    refine XS.aloadN X0.here hx rfl (hb hby d4_0) rfl rfl ?_
    show Steps p.tables e below (s₁.setTop (mkF m 1 #[.val (.ref a1), .val (.int (16 : Int32))] [(.ref a1)])) _
    refine st3 _ ?_
    show Steps p.tables e below (T3.setTop (mkF m 4 #[.val (.ref a1), .val (.int (16 : Int32))] [])) _
    refine st5 _ ?_
    show Steps p.tables e below (T5.setTop (mkF m 7 #[.val (.ref a1), .val (.int (16 : Int32))] [(.int w4)])) _
    refine XS.ifNo X5.here hx rfl (hb hby d4_7) rfl ((if0 _ _).trans (feq hc7).1) ?_
    show Steps p.tables e below (T5.setTop (mkF m 10 #[.val (.ref a1), .val (.int (16 : Int32))] [])) _
    refine XS.aloadN X5.here hx rfl (hb hby d4_10) rfl rfl ?_
    show Steps p.tables e below (T5.setTop (mkF m 11 #[.val (.ref a1), .val (.int (16 : Int32))] [(.ref a1)])) _
    refine XS.iloadN X5.here hx rfl (hb hby d4_11) rfl ?_
    show Steps p.tables e below (T5.setTop (mkF m 12 #[.val (.ref a1), .val (.int (16 : Int32))] [(.int (16 : Int32)), (.ref a1)])) _
    refine st6 _ ?_
    show Steps p.tables e below (T6.setTop (mkF m 14 #[.val (.ref a1), .val (.int (16 : Int32))] [(.ref b6), (.ref a1)])) _
    refine st7 _ ?_
    show Steps p.tables e below (T7.setTop (mkF m 17 #[.val (.ref a1), .val (.int (16 : Int32))] [])) _
    refine XS.aloadN X7.here hx rfl (hb hby d4_17) rfl rfl ?_
    show Steps p.tables e below (T7.setTop (mkF m 18 #[.val (.ref a1), .val (.int (16 : Int32))] [(.ref a1)])) _
    refine XS.iconst X7.here hx rfl (hb hby d4_18) ?_
    show Steps p.tables e below (T7.setTop (mkF m 19 #[.val (.ref a1), .val (.int (16 : Int32))] [(.int (0 : Int32)), (.ref a1)])) _
    refine st8 _ ?_
    show Steps p.tables e below (T8.setTop (mkF m 22 #[.val (.ref a1), .val (.int (16 : Int32))] [])) _
    refine XS.goto X8.here hx rfl (pc0 := 22) (pc' := 38) rfl (hb hby d4_22) (by decide) (by decide) ?_
    show Steps p.tables e below (T8.setTop (mkF m 38 #[.val (.ref a1), .val (.int (16 : Int32))] [])) _
    exact X8.returnOut hx Bd.returns (hb hby d4_38) hr
  · show Q4 Z a1 h0 n0 _ T8.heap _
    rw [e8]
    exact ⟨rfl, N8, K8, ((E_a1.ext E6).wr W7).wr W8, ((F_count_a1.ext E6).other W7 (Or.inr (slot_ne (Or.inl (hw _ (List.mem_of_getElem? (i := 69) rfl))) (Or.inl (hw _ (List.mem_of_getElem? (i := 26) rfl))) (by decide) (t := .int) (t' := (.array .byte)) (by decide) (by decide)))).other W8 (Or.inr (slot_ne (Or.inl (hw _ (List.mem_of_getElem? (i := 69) rfl))) (Or.inl (hw _ (List.mem_of_getElem? (i := 28) rfl))) (by decide) (t := .int) (t' := .byte) (by decide) (by decide)))⟩
theorem d3_0 : decode jdk_67_method_1_code 0 = .ok (.aload_n 0, 1) := by decide +kernel
theorem d3_1 : decode jdk_67_method_1_code 1 = .ok (.bipush 16, 2) := by decide +kernel
theorem d3_3 : decode jdk_67_method_1_code 3 = .ok (.invokespecial 1, 3) := by decide +kernel
theorem d3_6 : decode jdk_67_method_1_code 6 = .ok (.return_, 1) := by decide +kernel
theorem pn_3 : plainName "java/lang/StringBuilder" = true := by first | (simp [plainName, overriddenIn]; done) | decide +kernel
theorem pd_3_1 : parseMethodDescriptor "(I)V" = some ⟨[.int], none⟩ := by decide +kernel
theorem ef_3 (m : MethodId) (x0 : Addr) : entryFrame m #[(.ref x0)] 1 = mkF m 0 #[.val (.ref x0)] [] := by first | (simp [entryFrame, mkF, argsToLocals, Value.category]; done) | rfl
def Q3 (Z : State) (a1 : Addr) (h0 : Heap) (n0 : Nat) (v : Option Value) (h : Heap) (L : List Loc) : Prop := v = none ∧ Fr n0 L ∧ Keep h0 h [a1] ∧ Exa Z h a1 "java/lang/StringBuilder" ∧ Fld Z h a1 "java/lang/AbstractStringBuilder" "count" "I" (.int (0 : Int32))
set_option maxRecDepth 65536 in
set_option maxHeartbeats 40000000 in
theorem rm3 (l : Launch) (Z : State) (a0 : Array Value) (hw : ∀ d ∈ tables_1, d.before a0 Z = true) (ws : List Jvm.Cond) (a1 : Addr) (w4 : Int32) (uv uc : Value) (h0 : Heap) (n0 : Nat) (Z0 : n0 ≤ h0.size) (S_C : Sta Z h0 "java/lang/String" "COMPACT_STRINGS" "Z" (.int w4)) (E_a1 : Exa Z h0 a1 "java/lang/StringBuilder") (F_n : Fld Z h0 a1 "java/lang/AbstractStringBuilder" "count" "I" (.int (0 : Int32))) (F_v : Fld Z h0 a1 "java/lang/AbstractStringBuilder" "value" "[B" uv) (g_a1 : n0 ≤ a1) (F_c : Fld Z h0 a1 "java/lang/AbstractStringBuilder" "coder" "B" uc) (hc : ¬ (w4 = (0 : Int32))) :
    MetFree l (⟨"java/lang/StringBuilder", "<init>", "()V"⟩ : MethodName) (head1 (Jvm.Cond.code (⟨"java/lang/StringBuilder", "<init>", "()V"⟩ : MethodName) jdk_67_method_1_code 1 none :: ws) ({ frames := 2, cells := 1, slots := 16, locals := 25 } : Room)) (fun a U => a = #[(.ref a1)] ∧ Z.Warmed39 U.vm ∧ U.heap = h0) (fun _ _ _ _ _ => True) (fun _ U o U' => ∃ v L, o = .returned v ∧ Q3 Z a1 h0 n0 v U'.heap L ∧ FrameEnd U o U' L ({ frames := 2, cells := 1, slots := 16, locals := 25 } : Room).cells ({ frames := 2, cells := 1, slots := 16, locals := 25 } : Room).slots) := by
  refine MetFree.of_bodySF (plainFor_of_name pn_3) hisR ?_
  intro p e s m args below meth c s₁ Bd hml0 hP hK
  obtain ⟨rfl, hZ, hh⟩ := hP
  have hx := Bd.exec
  have hby := Bd.bytes
  have hml : c.maxLocals = 1 := hml0
  have hown : s.vm.findClass "java/lang/StringBuilder" = some m.cls := findClass_of_methodNamed Bd.named
  have hnm := (name_of_methodNamed Bd.named Bd.method).1
  have X0 : Stand p l e ({ frames := 2, cells := 1, slots := 16, locals := 25 } : Room) s m #[(.ref a1)] below meth c s₁ [] 0 0 := Stand.of_body Bd
  have e0 : s₁.heap = h0 := by rw [← hh, Bd.state]; rfl
  have N0 := Fr.nil n0
  have pre0 : ∀ t, Steps p.tables e below (s₁.setTop (mkF m 0 #[.val (.ref a1)] [])) t → Steps p.tables e below (s₁.setTop (entryFrame m #[(.ref a1)] 1)) t := fun t k => castTop (ef_3 m a1) k
  -- 3. LAWS
  -- pc 3: the constructor of java/lang/AbstractStringBuilder by its contract rm4
  obtain ⟨_, _, ⟨T2, L2, k2, n2⟩, -, X2, ⟨Lc2, hQ2, l2, y2, z2⟩, st2⟩ := X0.specialBack hx (y := (⟨"java/lang/AbstractStringBuilder", "<init>", "(I)V"⟩ : MethodName)) rfl hown (mvT hZ (hw _ (List.mem_of_getElem? (i := 15) rfl))) (mvT hZ (hw _ (List.mem_of_getElem? (i := 16) rfl))) (mvT hZ (hw _ (List.mem_of_getElem? (i := 20) rfl))) (by decide) (backOf (W := 0) (rm4 l Z a0 hw [] a1 w4 uv uc h0 n0 Z0 S_C E_a1 F_n F_v g_a1 F_c hc) hZ (hw _ (List.mem_of_getElem? (i := 20) rfl)) (hw _ (List.mem_of_getElem? (i := 19) rfl)) (by decide) (by decide)) (g := (mkF m 3 #[.val (.ref a1)] [(.int (16 : Int32)), (.ref a1)])) rfl (by rw [hml]; rfl) (Steps.refl _) (a := a1) (argsL := [(.int (16 : Int32))]) (rest := []) (lenOf pd_3_1 rfl) rfl (by show 2 * 0 + _ ≤ _; exact Nat.le_of_eq rfl) (hb hby d3_3) (fun _ _ => ⟨rfl, e0, (by decide : 0 + 1 ≤ _), (by decide : 0 + 16 ≤ _)⟩)
  dsimp only [Pt.U, Pt.locs, Pt.cells, Pt.slots] at X2 l2 y2 z2 st2 hQ2
  subst l2 y2 z2
  obtain ⟨rfl, N2q, K2, E2, F2⟩ := hQ2      -- what it returned, that it wrote nothing old, and the rest of your Q4
  have N2 := Fr.app N0 N2q
  obtain ⟨fs, hr, hrun, hended, hW, hsame⟩ := X2.leave (v := none) (fun _ => rfl)
  refine ⟨_, _, pre0 _ ?_, hrun, hended, _, _, rfl, ?_, ⟨_, rfl⟩, hW, hsame.mono (by decide) (by decide)⟩
  -- 4. STEPS
  · show Steps p.tables e below (s₁.setTop (mkF m 0 #[.val (.ref a1)] [])) _
    refine XS.aloadN X0.here hx rfl (hb hby d3_0) rfl rfl ?_
    show Steps p.tables e below (s₁.setTop (mkF m 1 #[.val (.ref a1)] [(.ref a1)])) _
    refine XS.bipush X0.here hx rfl (hb hby d3_1) ?_
    show Steps p.tables e below (s₁.setTop (mkF m 3 #[.val (.ref a1)] [(.int (16 : Int32)), (.ref a1)])) _
    refine st2.trans ?_
    show Steps p.tables e below (T2.setTop (mkF m 6 #[.val (.ref a1)] [])) _
    exact X2.returnOut hx Bd.returns (hb hby d3_6) hr
  · show Q3 Z a1 h0 n0 _ T2.heap _
    exact ⟨rfl, N2, K2, E2, F2⟩
theorem d1_0 : decode prog_141_method_1_code 0 = .ok (.aload_n 0, 1) := by decide +kernel
theorem d1_1 : decode prog_141_method_1_code 1 = .ok (.invokespecial 1, 3) := by decide +kernel
theorem d1_4 : decode prog_141_method_1_code 4 = .ok (.aload_n 0, 1) := by decide +kernel
theorem d1_5 : decode prog_141_method_1_code 5 = .ok (.new 7, 3) := by decide +kernel
theorem d1_8 : decode prog_141_method_1_code 8 = .ok (.dup, 1) := by decide +kernel
theorem d1_9 : decode prog_141_method_1_code 9 = .ok (.invokespecial 9, 3) := by decide +kernel
theorem d1_12 : decode prog_141_method_1_code 12 = .ok (.putfield 10, 3) := by decide +kernel
theorem d1_15 : decode prog_141_method_1_code 15 = .ok (.aload_n 0, 1) := by decide +kernel
theorem d1_16 : decode prog_141_method_1_code 16 = .ok (.sipush 1024, 3) := by decide +kernel
theorem d1_19 : decode prog_141_method_1_code 19 = .ok (.newarray .char, 2) := by decide +kernel
theorem d1_21 : decode prog_141_method_1_code 21 = .ok (.putfield 16, 3) := by decide +kernel
theorem d1_24 : decode prog_141_method_1_code 24 = .ok (.aload_n 0, 1) := by decide +kernel
theorem d1_25 : decode prog_141_method_1_code 25 = .ok (.bipush 96, 2) := by decide +kernel
theorem d1_27 : decode prog_141_method_1_code 27 = .ok (.newarray .int, 2) := by decide +kernel
theorem d1_29 : decode prog_141_method_1_code 29 = .ok (.putfield 20, 3) := by decide +kernel
theorem d1_32 : decode prog_141_method_1_code 32 = .ok (.return_, 1) := by decide +kernel
theorem pn_1 : plainName "org/codeweft/fhir/OpenTags" = true := by first | (simp [plainName, overriddenIn]; done) | decide +kernel
theorem pd_1_0 : parseMethodDescriptor "()V" = some ⟨[], none⟩ := by decide +kernel
theorem ef_1 (m : MethodId) (x0 : Addr) : entryFrame m #[(.ref x0)] 1 = mkF m 0 #[.val (.ref x0)] [] := by first | (simp [entryFrame, mkF, argsToLocals, Value.category]; done) | rfl
def Q1 (Z : State) (a1 : Addr) (h0 : Heap) (n0 : Nat) (v : Option Value) (h : Heap) (L : List Loc) : Prop := v = none ∧ Fr n0 L ∧ Keep h0 h [a1] ∧ ∃ b mk : Addr, own_O Z h a1 b mk 0 0 ∧ own_M Z h mk (fun _ => 0) ∧ n0 ≤ mk ∧ a1 ≠ mk ∧ a1 ≠ b ∧ b ≠ mk
set_option maxRecDepth 65536 in
set_option maxHeartbeats 40000000 in
theorem rm1 (l : Launch) (Z : State) (a0 : Array Value) (hw : ∀ d ∈ tables_1, d.before a0 Z = true) (ws : List Jvm.Cond) (a1 : Addr) (u_declarations_a1 : Value) (u_names_a1 : Value) (u_marks_a1 : Value) (w4 : Int32) (h0 : Heap) (n0 : Nat) (Z0 : n0 ≤ h0.size) (S_C : Sta Z h0 "java/lang/String" "COMPACT_STRINGS" "Z" (.int w4)) (hcs : ¬ (w4 = (0 : Int32))) (F_count_a1 : Fld Z h0 a1 "org/codeweft/fhir/OpenTags" "count" "I" (.int (0 : Int32))) (F_held_a1 : Fld Z h0 a1 "org/codeweft/fhir/OpenTags" "held" "I" (.int (0 : Int32))) (F_namesEnd_a1 : Fld Z h0 a1 "org/codeweft/fhir/OpenTags" "namesEnd" "I" (.int (0 : Int32))) (E_a1 : Exa Z h0 a1 "org/codeweft/fhir/OpenTags") (F_declarations_a1 : Fld Z h0 a1 "org/codeweft/fhir/OpenTags" "declarations" "Ljava/lang/StringBuilder;" u_declarations_a1) (g_a1 : n0 ≤ a1) (F_names_a1 : Fld Z h0 a1 "org/codeweft/fhir/OpenTags" "names" "[C" u_names_a1) (F_marks_a1 : Fld Z h0 a1 "org/codeweft/fhir/OpenTags" "marks" "[I" u_marks_a1) :
    MetFree l (⟨"org/codeweft/fhir/OpenTags", "<init>", "()V"⟩ : MethodName) (head1 (Jvm.Cond.code (⟨"org/codeweft/fhir/OpenTags", "<init>", "()V"⟩ : MethodName) prog_141_method_1_code 1 none :: ws) ({ frames := 3, cells := 4, slots := 1140, locals := 39 } : Room)) (fun a U => a = #[(.ref a1)] ∧ Z.Warmed39 U.vm ∧ U.heap = h0) (fun _ _ _ _ _ => True) (fun _ U o U' => ∃ v L, o = .returned v ∧ Q1 Z a1 h0 n0 v U'.heap L ∧ FrameEnd U o U' L ({ frames := 3, cells := 4, slots := 1140, locals := 39 } : Room).cells ({ frames := 3, cells := 4, slots := 1140, locals := 39 } : Room).slots) := by
  refine MetFree.of_bodySF (plainFor_of_name pn_1) hisR ?_
  intro p e s m args below meth c s₁ Bd hml0 hP hK
  obtain ⟨rfl, hZ, hh⟩ := hP
  have hx := Bd.exec
  have hby := Bd.bytes
  have hml : c.maxLocals = 1 := hml0
  have hown : s.vm.findClass "org/codeweft/fhir/OpenTags" = some m.cls := findClass_of_methodNamed Bd.named
  have hnm := (name_of_methodNamed Bd.named Bd.method).1
  have X0 : Stand p l e ({ frames := 3, cells := 4, slots := 1140, locals := 39 } : Room) s m #[(.ref a1)] below meth c s₁ [] 0 0 := Stand.of_body Bd
  have e0 : s₁.heap = h0 := by rw [← hh, Bd.state]; rfl
  have N0 := Fr.nil n0
  have pre0 : ∀ t, Steps p.tables e below (s₁.setTop (mkF m 0 #[.val (.ref a1)] [])) t → Steps p.tables e below (s₁.setTop (entryFrame m #[(.ref a1)] 1)) t := fun t k => castTop (ef_1 m a1) k
  -- 3. LAWS
  obtain ⟨T2, X2, e2, st2⟩ := initO X0 hx hZ hown (hw _ (List.mem_of_getElem? (i := 6) rfl)) (hw _ (List.mem_of_getElem? (i := 7) rfl)) (hw _ (List.mem_of_getElem? (i := 8) rfl)) e0 (g := (mkF m 1 #[.val (.ref a1)] [(.ref a1)])) rfl (by rw [hml]; rfl) rfl (hb hby d1_1) (by decide) (W := 0) (by show 2 * 0 + _ ≤ _; exact Nat.le_of_eq rfl) (by decide)
  obtain ⟨T3, h3, X3, e3, E3, A3, D3, -, st3⟩ := newO X2 hx hZ hown (hw _ (List.mem_of_getElem? (i := 9) rfl)) (hw _ (List.mem_of_getElem? (i := 10) rfl)) (hw _ (List.mem_of_getElem? (i := 11) rfl)) e2 (g := (mkF m 5 #[.val (.ref a1)] [(.ref a1)])) rfl (hb hby d1_5) (by decide) (by decide)
  obtain ⟨b3, g3⟩ : ∃ z, z = h0.size := ⟨_, rfl⟩      -- the fresh object's address
  rw [← g3] at A3 D3 st3      -- A3 : Exa Z h3 b3 "java/lang/StringBuilder"; E3 : Ext h0 h3 (carries every older fact: .ext E3)
  have F_value_b3 : Fld Z h3 b3 "java/lang/AbstractStringBuilder" "value" "[B" .null := D3 (Or.inl (hw _ (List.mem_of_getElem? (i := 26) rfl))) (ty := (.array .byte)) (by decide)
  have F_coder_b3 : Fld Z h3 b3 "java/lang/AbstractStringBuilder" "coder" "B" (.int (0 : Int32)) := D3 (Or.inl (hw _ (List.mem_of_getElem? (i := 28) rfl))) (ty := .byte) (by decide)
  have F_count_b3 : Fld Z h3 b3 "java/lang/AbstractStringBuilder" "count" "I" (.int (0 : Int32)) := D3 (Or.inl (hw _ (List.mem_of_getElem? (i := 69) rfl))) (ty := .int) (by decide)
  have E_b3 := A3
  have g_b3 : n0 ≤ b3 := Nat.le_trans Z0 (Nat.le_of_eq g3.symm)
  have sz_b3 : h0.size ≤ b3 := (Nat.le_trans (Keep.refl h0 [a1]).1 (Nat.le_of_eq g3.symm))
  have K3 : Keep h0 h3 [a1] := (Keep.refl h0 [a1]).ext E3
  -- pc 9: the constructor of java/lang/StringBuilder by its contract rm3
  obtain ⟨_, _, ⟨T4, L4, k4, n4⟩, -, X4, ⟨Lc4, hQ4, l4, y4, z4⟩, st4⟩ := X3.specialBack hx (y := (⟨"java/lang/StringBuilder", "<init>", "()V"⟩ : MethodName)) rfl hown (mvT hZ (hw _ (List.mem_of_getElem? (i := 12) rfl))) (mvT hZ (hw _ (List.mem_of_getElem? (i := 13) rfl))) (mvT hZ (hw _ (List.mem_of_getElem? (i := 14) rfl))) (by decide) (backOf (W := 2) (rm3 l Z a0 hw [] b3 w4 .null (.int (0 : Int32)) h3 n0 (Nat.le_trans Z0 E3.1) (S_C.ext E3) E_b3 F_count_b3 F_value_b3 g_b3 F_coder_b3 hcs) hZ (hw _ (List.mem_of_getElem? (i := 14) rfl)) (hw _ (List.mem_of_getElem? (i := 11) rfl)) (by decide) (by decide)) (g := (mkF m 9 #[.val (.ref a1)] [(.ref b3), (.ref b3), (.ref a1)])) rfl (by rw [hml]; rfl) (Steps.refl _) (a := b3) (argsL := []) (rest := [(.ref b3), (.ref a1)]) (lenOf pd_1_0 rfl) rfl (by show 2 * 0 + _ ≤ _; exact Nat.le_of_eq rfl) (hb hby d1_9) (fun _ _ => ⟨rfl, e3, (by decide : 1 + 1 ≤ _), (by decide : 4 + 16 ≤ _)⟩)
  dsimp only [Pt.U, Pt.locs, Pt.cells, Pt.slots] at X4 l4 y4 z4 st4 hQ4
  subst l4 y4 z4
  obtain ⟨rfl, N4q, K4, E4, F4⟩ := hQ4      -- what it returned, that it wrote nothing old, and the rest of your Q3
  have N4 := Fr.app N0 N4q
  have ab : a1 ≠ b3 := Nat.ne_of_lt (Nat.lt_of_lt_of_le E_a1.lt (Nat.le_of_eq g3.symm))
  have nab : a1 ∉ [b3] := fun q => ab (List.mem_singleton.mp q)
  have K40 : Keep h0 T4.heap [a1] := K3.trans K4 (fun x hx => by cases List.mem_singleton.mp hx; exact Or.inr sz_b3)
  obtain ⟨T5, h5, X5, e5, W5, st5⟩ := putF X4 hx hZ hown (host := "") (Or.inl (hw _ (List.mem_of_getElem? (i := 29) rfl))) Via.refl rfl ((F_declarations_a1.ext E3).keep K4 nab) ((E_a1.ext E3).keep K4) (Or.inr ⟨(hw _ (List.mem_of_getElem? (i := 30) rfl)), rfl, hnm⟩) (hw _ (List.mem_of_getElem? (i := 1) rfl)) (ty := (.object "java/lang/StringBuilder")) (by decide) rfl rfl (g := (mkF m 12 #[.val (.ref a1)] [(.ref b3), (.ref a1)])) rfl rfl (hb hby d1_12)
  have Fw5 := ((F_declarations_a1.ext E3).keep K4 nab).same W5      -- the field now holds (.ref b3)
  have K5 : Keep h0 h5 [a1] := K40.wr W5 (Or.inl (List.mem_of_getElem? (i := 0) rfl))
  have N5 := Fr.snoc X5 N4 g_a1
  obtain ⟨T6, h6, k6, X6, e6, E6, A6, st6⟩ := newP X5 hx hZ (hw _ (List.mem_of_getElem? (i := 31) rfl)) e5 (g := (mkF m 19 #[.val (.ref a1)] [(.int (1024 : Int32)), (.ref a1)])) rfl (hb hby d1_19) rfl (by decide) (cap := 1024) (by decide) (by decide) (by decide) (by decide)
  obtain ⟨b6, g6⟩ : ∃ z, z = h5.size := ⟨_, rfl⟩      -- the fresh array's address
  rw [← g6] at A6 st6
  have g_b6 : n0 ≤ b6 := Nat.le_trans (Nat.le_trans (Nat.le_trans (Nat.le_trans Z0 E3.1) K4.1) (Keep.of_wr W5).1) (Nat.le_of_eq g6.symm)
  have sz_b6 : h0.size ≤ b6 := (Nat.le_trans K5.1 (Nat.le_of_eq g6.symm))
  have K6 : Keep h0 h6 [a1] := K5.ext E6
  obtain ⟨T7, h7, X7, e7, W7, st7⟩ := putF X6 hx hZ hown (host := "") (Or.inl (hw _ (List.mem_of_getElem? (i := 32) rfl))) Via.refl e6 ((((F_names_a1.ext E3).keep K4 nab).other W5 (Or.inr (slot_ne (Or.inl (hw _ (List.mem_of_getElem? (i := 33) rfl))) (Or.inr (hw _ (List.mem_of_getElem? (i := 30) rfl))) (by decide) (t := (.array .char)) (t' := (.object "java/lang/StringBuilder")) (by decide) (by decide)))).ext E6) ((((E_a1.ext E3).keep K4).wr W5).ext E6) (Or.inl (hw _ (List.mem_of_getElem? (i := 33) rfl))) (hw _ (List.mem_of_getElem? (i := 1) rfl)) (ty := (.array .char)) (by decide) rfl rfl (g := (mkF m 21 #[.val (.ref a1)] [(.ref b6), (.ref a1)])) rfl rfl (hb hby d1_21)
  have Fw7 := ((((F_names_a1.ext E3).keep K4 nab).other W5 (Or.inr (slot_ne (Or.inl (hw _ (List.mem_of_getElem? (i := 33) rfl))) (Or.inr (hw _ (List.mem_of_getElem? (i := 30) rfl))) (by decide) (t := (.array .char)) (t' := (.object "java/lang/StringBuilder")) (by decide) (by decide)))).ext E6).same W7      -- the field now holds (.ref b6)
  have K7 : Keep h0 h7 [a1] := K6.wr W7 (Or.inl (List.mem_of_getElem? (i := 0) rfl))
  have N7 := Fr.snoc X7 N5 g_a1
  obtain ⟨T8, h8, k8, X8, e8, E8, A8, st8⟩ := newP X7 hx hZ (hw _ (List.mem_of_getElem? (i := 34) rfl)) e7 (g := (mkF m 27 #[.val (.ref a1)] [(.int (96 : Int32)), (.ref a1)])) rfl (hb hby d1_27) rfl (by decide) (cap := 96) (by decide) (by decide) (by decide) (by decide)
  obtain ⟨b8, g8⟩ : ∃ z, z = h7.size := ⟨_, rfl⟩      -- the fresh array's address
  rw [← g8] at A8 st8
  have g_b8 : n0 ≤ b8 := Nat.le_trans (Nat.le_trans (Nat.le_trans (Nat.le_trans (Nat.le_trans (Nat.le_trans Z0 E3.1) K4.1) (Keep.of_wr W5).1) E6.1) (Keep.of_wr W7).1) (Nat.le_of_eq g8.symm)
  have sz_b8 : h0.size ≤ b8 := (Nat.le_trans K7.1 (Nat.le_of_eq g8.symm))
  have K8 : Keep h0 h8 [a1] := K7.ext E8
  obtain ⟨T9, h9, X9, e9, W9, st9⟩ := putF X8 hx hZ hown (host := "") (Or.inl (hw _ (List.mem_of_getElem? (i := 35) rfl))) Via.refl e8 ((((((F_marks_a1.ext E3).keep K4 nab).other W5 (Or.inr (slot_ne (Or.inl (hw _ (List.mem_of_getElem? (i := 36) rfl))) (Or.inr (hw _ (List.mem_of_getElem? (i := 30) rfl))) (by decide) (t := (.array .int)) (t' := (.object "java/lang/StringBuilder")) (by decide) (by decide)))).ext E6).other W7 (Or.inr (slot_ne (Or.inl (hw _ (List.mem_of_getElem? (i := 36) rfl))) (Or.inl (hw _ (List.mem_of_getElem? (i := 33) rfl))) (by decide) (t := (.array .int)) (t' := (.array .char)) (by decide) (by decide)))).ext E8) ((((((E_a1.ext E3).keep K4).wr W5).ext E6).wr W7).ext E8) (Or.inl (hw _ (List.mem_of_getElem? (i := 36) rfl))) (hw _ (List.mem_of_getElem? (i := 1) rfl)) (ty := (.array .int)) (by decide) rfl rfl (g := (mkF m 29 #[.val (.ref a1)] [(.ref b8), (.ref a1)])) rfl rfl (hb hby d1_29)
  have Fw9 := ((((((F_marks_a1.ext E3).keep K4 nab).other W5 (Or.inr (slot_ne (Or.inl (hw _ (List.mem_of_getElem? (i := 36) rfl))) (Or.inr (hw _ (List.mem_of_getElem? (i := 30) rfl))) (by decide) (t := (.array .int)) (t' := (.object "java/lang/StringBuilder")) (by decide) (by decide)))).ext E6).other W7 (Or.inr (slot_ne (Or.inl (hw _ (List.mem_of_getElem? (i := 36) rfl))) (Or.inl (hw _ (List.mem_of_getElem? (i := 33) rfl))) (by decide) (t := (.array .int)) (t' := (.array .char)) (by decide) (by decide)))).ext E8).same W9      -- the field now holds (.ref b8)
  have K9 : Keep h0 h9 [a1] := K8.wr W9 (Or.inl (List.mem_of_getElem? (i := 0) rfl))
  have N9 := Fr.snoc X9 N7 g_a1
  have up5 : T4.heap.size ≤ b8 := Nat.le_trans (Keep.of_wr W5).1 (Nat.le_trans E6.1 (Nat.le_trans (Keep.of_wr W7).1 (Nat.le_of_eq g8.symm)))
  have am : a1 ≠ b8 := Nat.ne_of_lt (Nat.lt_of_lt_of_le E_a1.lt (Nat.le_trans E3.1 (Nat.le_trans K4.1 up5)))
  have bm : b3 ≠ b8 := Nat.ne_of_lt (Nat.lt_of_lt_of_le E4.lt up5)
  have O9 : own_O Z h9 a1 b3 b8 0 0 := ⟨(((((E_a1.ext E3).keep K4).wr W5).ext E6).wr W7).ext E8 |>.wr W9, ((((((F_count_a1.ext E3).keep K4 nab).other W5 (Or.inr (slot_ne (Or.inl (hw _ (List.mem_of_getElem? (i := 43) rfl))) (Or.inr (hw _ (List.mem_of_getElem? (i := 30) rfl))) (by decide) (t := .int) (t' := (.object "java/lang/StringBuilder")) (by decide) (by decide)))).ext E6).other W7 (Or.inr (slot_ne (Or.inl (hw _ (List.mem_of_getElem? (i := 43) rfl))) (Or.inl (hw _ (List.mem_of_getElem? (i := 33) rfl))) (by decide) (t := .int) (t' := (.array .char)) (by decide) (by decide)))).ext E8).other W9 (Or.inr (slot_ne (Or.inl (hw _ (List.mem_of_getElem? (i := 43) rfl))) (Or.inl (hw _ (List.mem_of_getElem? (i := 36) rfl))) (by decide) (t := .int) (t' := (.array .int)) (by decide) (by decide))), ((((((F_held_a1.ext E3).keep K4 nab).other W5 (Or.inr (slot_ne (Or.inl (hw _ (List.mem_of_getElem? (i := 50) rfl))) (Or.inr (hw _ (List.mem_of_getElem? (i := 30) rfl))) (by decide) (t := .int) (t' := (.object "java/lang/StringBuilder")) (by decide) (by decide)))).ext E6).other W7 (Or.inr (slot_ne (Or.inl (hw _ (List.mem_of_getElem? (i := 50) rfl))) (Or.inl (hw _ (List.mem_of_getElem? (i := 33) rfl))) (by decide) (t := .int) (t' := (.array .char)) (by decide) (by decide)))).ext E8).other W9 (Or.inr (slot_ne (Or.inl (hw _ (List.mem_of_getElem? (i := 50) rfl))) (Or.inl (hw _ (List.mem_of_getElem? (i := 36) rfl))) (by decide) (t := .int) (t' := (.array .int)) (by decide) (by decide))), ((((((F_namesEnd_a1.ext E3).keep K4 nab).other W5 (Or.inr (slot_ne (Or.inl (hw _ (List.mem_of_getElem? (i := 57) rfl))) (Or.inr (hw _ (List.mem_of_getElem? (i := 30) rfl))) (by decide) (t := .int) (t' := (.object "java/lang/StringBuilder")) (by decide) (by decide)))).ext E6).other W7 (Or.inr (slot_ne (Or.inl (hw _ (List.mem_of_getElem? (i := 57) rfl))) (Or.inl (hw _ (List.mem_of_getElem? (i := 33) rfl))) (by decide) (t := .int) (t' := (.array .char)) (by decide) (by decide)))).ext E8).other W9 (Or.inr (slot_ne (Or.inl (hw _ (List.mem_of_getElem? (i := 57) rfl))) (Or.inl (hw _ (List.mem_of_getElem? (i := 36) rfl))) (by decide) (t := .int) (t' := (.array .int)) (by decide) (by decide))), (((Fw5.ext E6).other W7 (Or.inr (slot_ne (Or.inr (hw _ (List.mem_of_getElem? (i := 30) rfl))) (Or.inl (hw _ (List.mem_of_getElem? (i := 33) rfl))) (by decide) (t := (.object "java/lang/StringBuilder")) (t' := (.array .char)) (by decide) (by decide)))).ext E8).other W9 (Or.inr (slot_ne (Or.inr (hw _ (List.mem_of_getElem? (i := 30) rfl))) (Or.inl (hw _ (List.mem_of_getElem? (i := 36) rfl))) (by decide) (t := (.object "java/lang/StringBuilder")) (t' := (.array .int)) (by decide) (by decide))), Fw9, (((E4.wr W5).ext E6).wr W7).ext E8 |>.wr W9, ((((F4.other W5 (Or.inl ab.symm)).ext E6).other W7 (Or.inl ab.symm)).ext E8).other W9 (Or.inl ab.symm)⟩
  have M9 : own_M Z h9 b8 (fun _ => 0) := by
    refine ⟨_, A8.other W9 am.symm, ?_, fun j hj => ?_⟩
    · rw [sz_new]; rfl
    · show (Array.replicate (96 : Int32).toNatClampNeg (defaultValue .int))[j]? = _
      rw [show (96 : Int32).toNatClampNeg = 96 from by decide, Array.getElem?_replicate, if_pos (by omega)]; rfl
  obtain ⟨fs, hr, hrun, hended, hW, hsame⟩ := X9.leave (v := none) (fun _ => rfl)
  refine ⟨_, _, pre0 _ ?_, hrun, hended, _, _, rfl, ?_, ⟨_, rfl⟩, hW, hsame.mono (by decide) (by decide)⟩
  -- 4. STEPS
  · show Steps p.tables e below (s₁.setTop (mkF m 0 #[.val (.ref a1)] [])) _
    refine XS.aloadN X0.here hx rfl (hb hby d1_0) rfl rfl ?_
    show Steps p.tables e below (s₁.setTop (mkF m 1 #[.val (.ref a1)] [(.ref a1)])) _
    refine st2 _ ?_
    show Steps p.tables e below (T2.setTop (mkF m 4 #[.val (.ref a1)] [])) _
    refine XS.aloadN X2.here hx rfl (hb hby d1_4) rfl rfl ?_
    show Steps p.tables e below (T2.setTop (mkF m 5 #[.val (.ref a1)] [(.ref a1)])) _
    refine st3 _ ?_
    show Steps p.tables e below (T3.setTop (mkF m 8 #[.val (.ref a1)] [(.ref b3), (.ref a1)])) _
    refine XS.dup X3.here hx rfl (hb hby d1_8) rfl rfl ?_
    show Steps p.tables e below (T3.setTop (mkF m 9 #[.val (.ref a1)] [(.ref b3), (.ref b3), (.ref a1)])) _
    refine st4.trans ?_
    show Steps p.tables e below (T4.setTop (mkF m 12 #[.val (.ref a1)] [(.ref b3), (.ref a1)])) _
    refine st5 _ ?_
    show Steps p.tables e below (T5.setTop (mkF m 15 #[.val (.ref a1)] [])) _
    refine XS.aloadN X5.here hx rfl (hb hby d1_15) rfl rfl ?_
    show Steps p.tables e below (T5.setTop (mkF m 16 #[.val (.ref a1)] [(.ref a1)])) _
    refine XS.sipush X5.here hx rfl (hb hby d1_16) ?_
    show Steps p.tables e below (T5.setTop (mkF m 19 #[.val (.ref a1)] [(.int (1024 : Int32)), (.ref a1)])) _
    refine st6 _ ?_
    show Steps p.tables e below (T6.setTop (mkF m 21 #[.val (.ref a1)] [(.ref b6), (.ref a1)])) _
    refine st7 _ ?_
    show Steps p.tables e below (T7.setTop (mkF m 24 #[.val (.ref a1)] [])) _
    refine XS.aloadN X7.here hx rfl (hb hby d1_24) rfl rfl ?_
    show Steps p.tables e below (T7.setTop (mkF m 25 #[.val (.ref a1)] [(.ref a1)])) _
    refine XS.bipush X7.here hx rfl (hb hby d1_25) ?_
    show Steps p.tables e below (T7.setTop (mkF m 27 #[.val (.ref a1)] [(.int (96 : Int32)), (.ref a1)])) _
    refine st8 _ ?_
    show Steps p.tables e below (T8.setTop (mkF m 29 #[.val (.ref a1)] [(.ref b8), (.ref a1)])) _
    refine st9 _ ?_
    show Steps p.tables e below (T9.setTop (mkF m 32 #[.val (.ref a1)] [])) _
    exact X9.returnOut hx Bd.returns (hb hby d1_32) hr
  · show Q1 Z a1 h0 n0 _ T9.heap _
    rw [e9]
    exact ⟨rfl, N9, K9, b3, b8, O9, M9, g_b8, am, ab, bm⟩
theorem d5_0 : decode prog_141_method_2_code 0 = .ok (.aload_n 0, 1) := by decide +kernel
theorem d5_1 : decode prog_141_method_2_code 1 = .ok (.getfield 24, 3) := by decide +kernel
theorem d5_4 : decode prog_141_method_2_code 4 = .ok (.ireturn, 1) := by decide +kernel
theorem pn_5 : plainName "org/codeweft/fhir/OpenTags" = true := by first | (simp [plainName, overriddenIn]; done) | decide +kernel
theorem ef_5 (m : MethodId) (x0 : Addr) : entryFrame m #[(.ref x0)] 1 = mkF m 0 #[.val (.ref x0)] [] := by first | (simp [entryFrame, mkF, argsToLocals, Value.category]; done) | rfl
def Q5 (Z : State) (a1 : Addr) (w2 : Int32) (h0 : Heap) (n0 : Nat) (v : Option Value) (h : Heap) (L : List Loc) : Prop := v = some (.int w2) ∧ Fr n0 L ∧ h = h0
set_option maxRecDepth 65536 in
set_option maxHeartbeats 40000000 in
theorem rm5 (l : Launch) (Z : State) (a0 : Array Value) (hw : ∀ d ∈ tables_1, d.before a0 Z = true) (ws : List Jvm.Cond) (a1 : Addr) (w2 : Int32) (h0 : Heap) (n0 : Nat) (Z0 : n0 ≤ h0.size) (F_count_a1 : Fld Z h0 a1 "org/codeweft/fhir/OpenTags" "count" "I" (.int w2)) :
    MetFree l (⟨"org/codeweft/fhir/OpenTags", "count", "()I"⟩ : MethodName) (head1 (Jvm.Cond.code (⟨"org/codeweft/fhir/OpenTags", "count", "()I"⟩ : MethodName) prog_141_method_2_code 1 (some .int) :: ws) ({ frames := 0, cells := 0, slots := 0, locals := 0 } : Room)) (fun a U => a = #[(.ref a1)] ∧ Z.Warmed39 U.vm ∧ U.heap = h0) (fun _ _ _ _ _ => True) (fun _ U o U' => ∃ v L, o = .returned v ∧ Q5 Z a1 w2 h0 n0 v U'.heap L ∧ FrameEnd U o U' L ({ frames := 0, cells := 0, slots := 0, locals := 0 } : Room).cells ({ frames := 0, cells := 0, slots := 0, locals := 0 } : Room).slots) := by
  refine MetFree.of_bodySF (plainFor_of_name pn_5) hisR ?_
  intro p e s m args below meth c s₁ Bd hml0 hP hK
  obtain ⟨rfl, hZ, hh⟩ := hP
  have hx := Bd.exec
  have hby := Bd.bytes
  have hml : c.maxLocals = 1 := hml0
  have hown : s.vm.findClass "org/codeweft/fhir/OpenTags" = some m.cls := findClass_of_methodNamed Bd.named
  have hnm := (name_of_methodNamed Bd.named Bd.method).1
  have X0 : Stand p l e ({ frames := 0, cells := 0, slots := 0, locals := 0 } : Room) s m #[(.ref a1)] below meth c s₁ [] 0 0 := Stand.of_body Bd
  have e0 : s₁.heap = h0 := by rw [← hh, Bd.state]; rfl
  have N0 := Fr.nil n0
  have pre0 : ∀ t, Steps p.tables e below (s₁.setTop (mkF m 0 #[.val (.ref a1)] [])) t → Steps p.tables e below (s₁.setTop (entryFrame m #[(.ref a1)] 1)) t := fun t k => castTop (ef_5 m a1) k
  -- 3. LAWS
  obtain ⟨T3, X3, e3, st3⟩ := getF X0 hx hZ hown (host := "") (Or.inl (hw _ (List.mem_of_getElem? (i := 42) rfl))) Via.refl e0 F_count_a1 (g := (mkF m 1 #[.val (.ref a1)] [(.ref a1)])) rfl rfl (hb hby d5_1)
  obtain ⟨fs, hr, hrun, hended, hW, hsame⟩ := X3.leave (v := some (.int w2)) (fun h => by rw [Bd.returns] at h; cases h)
  refine ⟨_, _, pre0 _ ?_, hrun, hended, _, _, rfl, ?_, ⟨_, rfl⟩, hW, hsame.mono (by decide) (by decide)⟩
  -- 4. STEPS
  · show Steps p.tables e below (s₁.setTop (mkF m 0 #[.val (.ref a1)] [])) _
    refine XS.aloadN X0.here hx rfl (hb hby d5_0) rfl rfl ?_
    show Steps p.tables e below (s₁.setTop (mkF m 1 #[.val (.ref a1)] [(.ref a1)])) _
    refine st3 _ ?_
    show Steps p.tables e below (T3.setTop (mkF m 4 #[.val (.ref a1)] [(.int w2)])) _
    exact retI X3 hx Bd.returns (hb hby d5_4) hr      -- retI stands in the head ('lawwalk <made dir>' prints it)
  · show Q5 Z a1 w2 h0 n0 _ T3.heap _
    rw [e3]
    exact ⟨rfl, N0, rfl⟩
theorem d6_0 : decode prog_141_method_3_code 0 = .ok (.aload_n 0, 1) := by decide +kernel
theorem d6_1 : decode prog_141_method_3_code 1 = .ok (.getfield 28, 3) := by decide +kernel
theorem d6_4 : decode prog_141_method_3_code 4 = .ok (.ireturn, 1) := by decide +kernel
theorem pn_6 : plainName "org/codeweft/fhir/OpenTags" = true := by first | (simp [plainName, overriddenIn]; done) | decide +kernel
theorem ef_6 (m : MethodId) (x0 : Addr) : entryFrame m #[(.ref x0)] 1 = mkF m 0 #[.val (.ref x0)] [] := by first | (simp [entryFrame, mkF, argsToLocals, Value.category]; done) | rfl
def Q6 (Z : State) (a1 : Addr) (w2 : Int32) (h0 : Heap) (n0 : Nat) (v : Option Value) (h : Heap) (L : List Loc) : Prop := v = some (.int w2) ∧ Fr n0 L ∧ h = h0
set_option maxRecDepth 65536 in
set_option maxHeartbeats 40000000 in
theorem rm6 (l : Launch) (Z : State) (a0 : Array Value) (hw : ∀ d ∈ tables_1, d.before a0 Z = true) (ws : List Jvm.Cond) (a1 : Addr) (w2 : Int32) (h0 : Heap) (n0 : Nat) (Z0 : n0 ≤ h0.size) (F_held_a1 : Fld Z h0 a1 "org/codeweft/fhir/OpenTags" "held" "I" (.int w2)) :
    MetFree l (⟨"org/codeweft/fhir/OpenTags", "held", "()I"⟩ : MethodName) (head1 (Jvm.Cond.code (⟨"org/codeweft/fhir/OpenTags", "held", "()I"⟩ : MethodName) prog_141_method_3_code 1 (some .int) :: ws) ({ frames := 0, cells := 0, slots := 0, locals := 0 } : Room)) (fun a U => a = #[(.ref a1)] ∧ Z.Warmed39 U.vm ∧ U.heap = h0) (fun _ _ _ _ _ => True) (fun _ U o U' => ∃ v L, o = .returned v ∧ Q6 Z a1 w2 h0 n0 v U'.heap L ∧ FrameEnd U o U' L ({ frames := 0, cells := 0, slots := 0, locals := 0 } : Room).cells ({ frames := 0, cells := 0, slots := 0, locals := 0 } : Room).slots) := by
  refine MetFree.of_bodySF (plainFor_of_name pn_6) hisR ?_
  intro p e s m args below meth c s₁ Bd hml0 hP hK
  obtain ⟨rfl, hZ, hh⟩ := hP
  have hx := Bd.exec
  have hby := Bd.bytes
  have hml : c.maxLocals = 1 := hml0
  have hown : s.vm.findClass "org/codeweft/fhir/OpenTags" = some m.cls := findClass_of_methodNamed Bd.named
  have hnm := (name_of_methodNamed Bd.named Bd.method).1
  have X0 : Stand p l e ({ frames := 0, cells := 0, slots := 0, locals := 0 } : Room) s m #[(.ref a1)] below meth c s₁ [] 0 0 := Stand.of_body Bd
  have e0 : s₁.heap = h0 := by rw [← hh, Bd.state]; rfl
  have N0 := Fr.nil n0
  have pre0 : ∀ t, Steps p.tables e below (s₁.setTop (mkF m 0 #[.val (.ref a1)] [])) t → Steps p.tables e below (s₁.setTop (entryFrame m #[(.ref a1)] 1)) t := fun t k => castTop (ef_6 m a1) k
  -- 3. LAWS
  obtain ⟨T3, X3, e3, st3⟩ := getF X0 hx hZ hown (host := "") (Or.inl (hw _ (List.mem_of_getElem? (i := 49) rfl))) Via.refl e0 F_held_a1 (g := (mkF m 1 #[.val (.ref a1)] [(.ref a1)])) rfl rfl (hb hby d6_1)
  obtain ⟨fs, hr, hrun, hended, hW, hsame⟩ := X3.leave (v := some (.int w2)) (fun h => by rw [Bd.returns] at h; cases h)
  refine ⟨_, _, pre0 _ ?_, hrun, hended, _, _, rfl, ?_, ⟨_, rfl⟩, hW, hsame.mono (by decide) (by decide)⟩
  -- 4. STEPS
  · show Steps p.tables e below (s₁.setTop (mkF m 0 #[.val (.ref a1)] [])) _
    refine XS.aloadN X0.here hx rfl (hb hby d6_0) rfl rfl ?_
    show Steps p.tables e below (s₁.setTop (mkF m 1 #[.val (.ref a1)] [(.ref a1)])) _
    refine st3 _ ?_
    show Steps p.tables e below (T3.setTop (mkF m 4 #[.val (.ref a1)] [(.int w2)])) _
    exact retI X3 hx Bd.returns (hb hby d6_4) hr      -- retI stands in the head ('lawwalk <made dir>' prints it)
  · show Q6 Z a1 w2 h0 n0 _ T3.heap _
    rw [e3]
    exact ⟨rfl, N0, rfl⟩
theorem d7_0 : decode prog_141_method_4_code 0 = .ok (.iconst 3, 1) := by decide +kernel
theorem d7_1 : decode prog_141_method_4_code 1 = .ok (.aload_n 0, 1) := by decide +kernel
theorem d7_2 : decode prog_141_method_4_code 2 = .ok (.getfield 24, 3) := by decide +kernel
theorem d7_5 : decode prog_141_method_4_code 5 = .ok (.imul, 1) := by decide +kernel
theorem d7_6 : decode prog_141_method_4_code 6 = .ok (.iconst 3, 1) := by decide +kernel
theorem d7_7 : decode prog_141_method_4_code 7 = .ok (.iadd, 1) := by decide +kernel
theorem d7_8 : decode prog_141_method_4_code 8 = .ok (.aload_n 0, 1) := by decide +kernel
theorem d7_9 : decode prog_141_method_4_code 9 = .ok (.getfield 20, 3) := by decide +kernel
theorem d7_12 : decode prog_141_method_4_code 12 = .ok (.arraylength, 1) := by decide +kernel
theorem d7_13 : decode prog_141_method_4_code 13 = .ok (.if_icmp .le 21, 3) := by decide +kernel
theorem d7_34 : decode prog_141_method_4_code 34 = .ok (.aload_n 0, 1) := by decide +kernel
theorem d7_35 : decode prog_141_method_4_code 35 = .ok (.getfield 20, 3) := by decide +kernel
theorem d7_38 : decode prog_141_method_4_code 38 = .ok (.iconst 3, 1) := by decide +kernel
theorem d7_39 : decode prog_141_method_4_code 39 = .ok (.aload_n 0, 1) := by decide +kernel
theorem d7_40 : decode prog_141_method_4_code 40 = .ok (.getfield 24, 3) := by decide +kernel
theorem d7_43 : decode prog_141_method_4_code 43 = .ok (.imul, 1) := by decide +kernel
theorem d7_44 : decode prog_141_method_4_code 44 = .ok (.aload_n 0, 1) := by decide +kernel
theorem d7_45 : decode prog_141_method_4_code 45 = .ok (.getfield 37, 3) := by decide +kernel
theorem d7_48 : decode prog_141_method_4_code 48 = .ok (.iastore, 1) := by decide +kernel
theorem d7_49 : decode prog_141_method_4_code 49 = .ok (.aload_n 0, 1) := by decide +kernel
theorem d7_50 : decode prog_141_method_4_code 50 = .ok (.getfield 20, 3) := by decide +kernel
theorem d7_53 : decode prog_141_method_4_code 53 = .ok (.iconst 3, 1) := by decide +kernel
theorem d7_54 : decode prog_141_method_4_code 54 = .ok (.aload_n 0, 1) := by decide +kernel
theorem d7_55 : decode prog_141_method_4_code 55 = .ok (.getfield 24, 3) := by decide +kernel
theorem d7_58 : decode prog_141_method_4_code 58 = .ok (.imul, 1) := by decide +kernel
theorem d7_59 : decode prog_141_method_4_code 59 = .ok (.iconst 1, 1) := by decide +kernel
theorem d7_60 : decode prog_141_method_4_code 60 = .ok (.iadd, 1) := by decide +kernel
theorem d7_61 : decode prog_141_method_4_code 61 = .ok (.aload_n 0, 1) := by decide +kernel
theorem d7_62 : decode prog_141_method_4_code 62 = .ok (.getfield 10, 3) := by decide +kernel
theorem d7_65 : decode prog_141_method_4_code 65 = .ok (.invokevirtual 40, 3) := by decide +kernel
theorem d7_68 : decode prog_141_method_4_code 68 = .ok (.iastore, 1) := by decide +kernel
theorem d7_69 : decode prog_141_method_4_code 69 = .ok (.aload_n 0, 1) := by decide +kernel
theorem d7_70 : decode prog_141_method_4_code 70 = .ok (.getfield 20, 3) := by decide +kernel
theorem d7_73 : decode prog_141_method_4_code 73 = .ok (.iconst 3, 1) := by decide +kernel
theorem d7_74 : decode prog_141_method_4_code 74 = .ok (.aload_n 0, 1) := by decide +kernel
theorem d7_75 : decode prog_141_method_4_code 75 = .ok (.getfield 24, 3) := by decide +kernel
theorem d7_78 : decode prog_141_method_4_code 78 = .ok (.imul, 1) := by decide +kernel
theorem d7_79 : decode prog_141_method_4_code 79 = .ok (.iconst 2, 1) := by decide +kernel
theorem d7_80 : decode prog_141_method_4_code 80 = .ok (.iadd, 1) := by decide +kernel
theorem d7_81 : decode prog_141_method_4_code 81 = .ok (.aload_n 0, 1) := by decide +kernel
theorem d7_82 : decode prog_141_method_4_code 82 = .ok (.getfield 28, 3) := by decide +kernel
theorem d7_85 : decode prog_141_method_4_code 85 = .ok (.iastore, 1) := by decide +kernel
theorem d7_86 : decode prog_141_method_4_code 86 = .ok (.return_, 1) := by decide +kernel
theorem pn_7 : plainName "org/codeweft/fhir/OpenTags" = true := by first | (simp [plainName, overriddenIn]; done) | decide +kernel
theorem pd_7_2 : parseMethodDescriptor "()I" = some ⟨[], some .int⟩ := by decide +kernel
theorem ef_7 (m : MethodId) (x0 : Addr) : entryFrame m #[(.ref x0)] 1 = mkF m 0 #[.val (.ref x0)] [] := by first | (simp [entryFrame, mkF, argsToLocals, Value.category]; done) | rfl
def Q7_0 (Z : State) (a1 b mk : Addr) (hl : Int32) (vf : Nat → Int32) (h0 : Heap) (n0 : Nat) (o : Option Value) (h : Heap) (L : List Loc) : Prop := o = none ∧ Fr n0 L ∧ Keep h0 h [mk] ∧ own_O Z h a1 b mk (0 : Int32) hl ∧ own_M Z h mk (own_u 0 hl vf)
set_option maxRecDepth 65536 in
set_option maxHeartbeats 40000000 in
theorem rm7_0 (l : Launch) (Z : State) (a0 : Array Value) (hw : ∀ d ∈ tables_1, d.before a0 Z = true) (ws : List Jvm.Cond) (a1 b mk : Addr) (hl : Int32) (vf : Nat → Int32) (h0 : Heap) (n0 : Nat) (Z0 : n0 ≤ h0.size) (O_ : own_O Z h0 a1 b mk (0 : Int32) hl) (M_ : own_M Z h0 mk vf) (g_w4 : n0 ≤ mk) (am : a1 ≠ mk) (ab : a1 ≠ b) (bm : b ≠ mk) :
    MetFree l (⟨"org/codeweft/fhir/OpenTags", "begin", "()V"⟩ : MethodName) (head1 (Jvm.Cond.code (⟨"org/codeweft/fhir/OpenTags", "begin", "()V"⟩ : MethodName) prog_141_method_4_code 1 none :: ws) ({ frames := 2, cells := 0, slots := 0, locals := 26 } : Room)) (fun a U => a = #[(.ref a1)] ∧ Z.Warmed39 U.vm ∧ U.heap = h0) (fun _ _ _ _ _ => True) (fun _ U o U' => ∃ v L, o = .returned v ∧ Q7_0 Z a1 b mk hl vf h0 n0 v U'.heap L ∧ FrameEnd U o U' L ({ frames := 2, cells := 0, slots := 0, locals := 26 } : Room).cells ({ frames := 2, cells := 0, slots := 0, locals := 26 } : Room).slots) := by
  refine MetFree.of_bodySF (plainFor_of_name pn_7) hisR ?_
  intro p e s m args below meth c s₁ Bd hml0 hP hK
  obtain ⟨rfl, hZ, hh⟩ := hP
  have hx := Bd.exec
  have hby := Bd.bytes
  have hml : c.maxLocals = 1 := hml0
  have hown : s.vm.findClass "org/codeweft/fhir/OpenTags" = some m.cls := findClass_of_methodNamed Bd.named
  have hnm := (name_of_methodNamed Bd.named Bd.method).1
  have X0 : Stand p l e ({ frames := 2, cells := 0, slots := 0, locals := 26 } : Room) s m #[(.ref a1)] below meth c s₁ [] 0 0 := Stand.of_body Bd
  have e0 : s₁.heap = h0 := by rw [← hh, Bd.state]; rfl
  have N0 := Fr.nil n0
  have pre0 : ∀ t, Steps p.tables e below (s₁.setTop (mkF m 0 #[.val (.ref a1)] [])) t → Steps p.tables e below (s₁.setTop (entryFrame m #[(.ref a1)] 1)) t := fun t k => castTop (ef_7 m a1) k
  -- 3. LAWS
  obtain ⟨E_a1, F_count_a1, F_held_a1, F_namesEnd_a1, F_declarations_a1, F_marks_a1, E_b, F_b⟩ := O_
  obtain ⟨cl, Ar_w4, S96, H6⟩ := M_
  have S_w4 : cl.slots.size = ((96 : Int32)).toNatClampNeg := by rw [S96]; decide
  have N_w4 : ¬ (96 : Int32) < 0 := by decide
  have I0 : ((3 : Int32) * (0 : Int32)).toNatClampNeg = 0 := by decide
  have I1 : (((3 : Int32) * (0 : Int32)) + (1 : Int32)).toNatClampNeg = 1 := by decide
  have I2 : (((3 : Int32) * (0 : Int32)) + (2 : Int32)).toNatClampNeg = 2 := by decide
  have hin48 : ¬ (((3 : Int32) * (0 : Int32)) < 0 ∨ cl.slots.size ≤ (((3 : Int32) * (0 : Int32))).toNatClampNeg) := by rw [S96, I0]; decide
  have hin68 : ¬ ((((3 : Int32) * (0 : Int32)) + (1 : Int32)) < 0 ∨ (cl.setSlot ((3 : Int32) * (0 : Int32)).toNatClampNeg (.int (0 : Int32))).slots.size ≤ ((((3 : Int32) * (0 : Int32)) + (1 : Int32))).toNatClampNeg) := by rw [sz_set, S96, I1]; decide
  have hin85 : ¬ ((((3 : Int32) * (0 : Int32)) + (2 : Int32)) < 0 ∨ ((cl.setSlot ((3 : Int32) * (0 : Int32)).toNatClampNeg (.int (0 : Int32))).setSlot (((3 : Int32) * (0 : Int32)) + (1 : Int32)).toNatClampNeg (.int (0 : Int32))).slots.size ≤ ((((3 : Int32) * (0 : Int32)) + (2 : Int32))).toNatClampNeg) := by rw [sz_set, sz_set, S96, I2]; decide
  obtain ⟨T3, X3, e3, st3⟩ := getF X0 hx hZ hown (host := "") (Or.inl (hw _ (List.mem_of_getElem? (i := 42) rfl))) Via.refl e0 F_count_a1 (g := (mkF m 2 #[.val (.ref a1)] [(.ref a1), (.int (3 : Int32))])) rfl rfl (hb hby d7_2)
  obtain ⟨T5, X5, e5, st5⟩ := getF X3 hx hZ hown (host := "") (Or.inl (hw _ (List.mem_of_getElem? (i := 35) rfl))) Via.refl e3 F_marks_a1 (g := (mkF m 9 #[.val (.ref a1)] [(.ref a1), (.int (((3 : Int32) * (0 : Int32)) + (3 : Int32)))])) rfl rfl (hb hby d7_9)
  obtain ⟨T6, X6, e6, st6⟩ := getF X5 hx hZ hown (host := "") (Or.inl (hw _ (List.mem_of_getElem? (i := 35) rfl))) Via.refl e5 F_marks_a1 (g := (mkF m 35 #[.val (.ref a1)] [(.ref a1)])) rfl rfl (hb hby d7_35)
  obtain ⟨T7, X7, e7, st7⟩ := getF X6 hx hZ hown (host := "") (Or.inl (hw _ (List.mem_of_getElem? (i := 42) rfl))) Via.refl e6 F_count_a1 (g := (mkF m 40 #[.val (.ref a1)] [(.ref a1), (.int (3 : Int32)), (.ref mk)])) rfl rfl (hb hby d7_40)
  obtain ⟨T9, X9, e9, st9⟩ := getF X7 hx hZ hown (host := "") (Or.inl (hw _ (List.mem_of_getElem? (i := 56) rfl))) Via.refl e7 F_namesEnd_a1 (g := (mkF m 45 #[.val (.ref a1)] [(.ref a1), (.int ((3 : Int32) * (0 : Int32))), (.ref mk)])) rfl rfl (hb hby d7_45)
  obtain ⟨T10, h10, X10, e10, W10, st10⟩ := stI X9 hx hZ e9 Ar_w4 (j := ((3 : Int32) * (0 : Int32))) hin48 (g := (mkF m 48 #[.val (.ref a1)] [(.int (0 : Int32)), (.int ((3 : Int32) * (0 : Int32))), (.ref mk)])) rfl rfl (hb hby d7_48)
  have N10 := Fr.snoc X10 N0 g_w4
  -- Ar_w4.same W10 : the array with (.int (0 : Int32)) at the place ((3 : Int32) * (0 : Int32))
  have K10 : Keep h0 h10 [mk] := (Keep.refl h0 [mk]).wr W10 (Or.inl (List.mem_of_getElem? (i := 0) rfl))
  obtain ⟨T11, X11, e11, st11⟩ := getF X10 hx hZ hown (host := "") (Or.inl (hw _ (List.mem_of_getElem? (i := 35) rfl))) Via.refl e10 (F_marks_a1.other W10 (Or.inl (am : a1 ≠ mk))) (g := (mkF m 50 #[.val (.ref a1)] [(.ref a1)])) rfl rfl (hb hby d7_50)
  obtain ⟨T12, X12, e12, st12⟩ := getF X11 hx hZ hown (host := "") (Or.inl (hw _ (List.mem_of_getElem? (i := 42) rfl))) Via.refl e11 (F_count_a1.other W10 (Or.inl (am : a1 ≠ mk))) (g := (mkF m 55 #[.val (.ref a1)] [(.ref a1), (.int (3 : Int32)), (.ref mk)])) rfl rfl (hb hby d7_55)
  obtain ⟨T14, X14, e14, st14⟩ := getF X12 hx hZ hown (host := "") (Or.inl (hw _ (List.mem_of_getElem? (i := 29) rfl))) Via.refl e12 (F_declarations_a1.other W10 (Or.inl (am : a1 ≠ mk))) (g := (mkF m 62 #[.val (.ref a1)] [(.ref a1), (.int (((3 : Int32) * (0 : Int32)) + (1 : Int32))), (.ref mk)])) rfl rfl (hb hby d7_62)
  -- pc 65: java/lang/StringBuilder.length by the contract of the body that the receiver's class selects, rm8
  obtain ⟨cq15, kq15, q15a, q15b, q15c⟩ := isOf hZ e14 (E_b.wr W10)
  obtain ⟨_, _, ⟨T15, L15, k15, n15⟩, -, X15, ⟨Lc15, hQ15, l15, y15, z15⟩, st15⟩ := X14.virtualBack hx (y := (⟨"java/lang/StringBuilder", "length", "()I"⟩ : MethodName)) (z := (⟨"java/lang/StringBuilder", "length", "()I"⟩ : MethodName)) hown (mvT hZ (hw _ (List.mem_of_getElem? (i := 58) rfl))) (mvT hZ (hw _ (List.mem_of_getElem? (i := 59) rfl))) (notFace_of_selects (args := #[]) (mvT hZ (hw _ (List.mem_of_getElem? (i := 61) rfl)))) (mvT hZ (hw _ (List.mem_of_getElem? (i := 61) rfl))) (mvT hZ (hw _ (List.mem_of_getElem? (i := 60) rfl))) (by decide) (backOf (W := 2) (rm8 l Z a0 hw [] b h10 n0 (Nat.le_trans Z0 K10.1) (F_b.other W10 (Or.inl bm))) hZ (hw _ (List.mem_of_getElem? (i := 62) rfl)) (hw _ (List.mem_of_getElem? (i := 11) rfl)) (by decide) (by decide)) q15a q15c (g := (mkF m 65 #[.val (.ref a1)] [(.ref b), (.int (((3 : Int32) * (0 : Int32)) + (1 : Int32))), (.ref mk)])) rfl (by rw [hml]; rfl) (Steps.refl _) (argsL := []) (rest := [(.int (((3 : Int32) * (0 : Int32)) + (1 : Int32))), (.ref mk)]) (lenOf pd_7_2 rfl) rfl (by show 2 * 0 + _ ≤ _; exact Nat.le_of_eq rfl) (hb hby d7_65) (fun _ _ => ⟨rfl, e14, (by decide : 0 + 0 ≤ _), (by decide : 0 + 0 ≤ _)⟩)
  dsimp only [Pt.U, Pt.locs, Pt.cells, Pt.slots] at X15 l15 y15 z15 st15 hQ15
  subst l15 y15 z15
  obtain ⟨rfl, N15q, e15⟩ := hQ15      -- what it returned, that it wrote nothing old, and the rest of your Q8
  have N15 := Fr.app N10 N15q
  obtain ⟨T16, h16, X16, e16, W16, st16⟩ := stI X15 hx hZ e15 (Ar_w4.same W10) (j := (((3 : Int32) * (0 : Int32)) + (1 : Int32))) hin68 (g := (mkF m 68 #[.val (.ref a1)] [(.int (0 : Int32)), (.int (((3 : Int32) * (0 : Int32)) + (1 : Int32))), (.ref mk)])) rfl rfl (hb hby d7_68)
  have N16 := Fr.snoc X16 N15 g_w4
  -- Ar_w4.same W16 : the array with (.int (0 : Int32)) at the place (((3 : Int32) * (0 : Int32)) + (1 : Int32))
  have K16 : Keep h0 h16 [mk] := K10.wr W16 (Or.inl (List.mem_of_getElem? (i := 0) rfl))
  obtain ⟨T18, X18, e18, st18⟩ := getF X16 hx hZ hown (host := "") (Or.inl (hw _ (List.mem_of_getElem? (i := 35) rfl))) Via.refl e16 (((F_marks_a1.other W10 (Or.inl (am : a1 ≠ mk)))).other W16 (Or.inl (am : a1 ≠ mk))) (g := (mkF m 70 #[.val (.ref a1)] [(.ref a1)])) rfl rfl (hb hby d7_70)
  obtain ⟨T20, X20, e20, st20⟩ := getF X18 hx hZ hown (host := "") (Or.inl (hw _ (List.mem_of_getElem? (i := 42) rfl))) Via.refl e18 (((F_count_a1.other W10 (Or.inl (am : a1 ≠ mk)))).other W16 (Or.inl (am : a1 ≠ mk))) (g := (mkF m 75 #[.val (.ref a1)] [(.ref a1), (.int (3 : Int32)), (.ref mk)])) rfl rfl (hb hby d7_75)
  obtain ⟨T22, X22, e22, st22⟩ := getF X20 hx hZ hown (host := "") (Or.inl (hw _ (List.mem_of_getElem? (i := 49) rfl))) Via.refl e20 (((F_held_a1.other W10 (Or.inl (am : a1 ≠ mk)))).other W16 (Or.inl (am : a1 ≠ mk))) (g := (mkF m 82 #[.val (.ref a1)] [(.ref a1), (.int (((3 : Int32) * (0 : Int32)) + (2 : Int32))), (.ref mk)])) rfl rfl (hb hby d7_82)
  obtain ⟨T23, h23, X23, e23, W23, st23⟩ := stI X22 hx hZ e22 ((Ar_w4.same W10).same W16) (j := (((3 : Int32) * (0 : Int32)) + (2 : Int32))) hin85 (g := (mkF m 85 #[.val (.ref a1)] [(.int hl), (.int (((3 : Int32) * (0 : Int32)) + (2 : Int32))), (.ref mk)])) rfl rfl (hb hby d7_85)
  have N23 := Fr.snoc X23 N16 g_w4
  -- Ar_w4.same W23 : the array with (.int hl) at the place (((3 : Int32) * (0 : Int32)) + (2 : Int32))
  have K23 : Keep h0 h23 [mk] := K16.wr W23 (Or.inl (List.mem_of_getElem? (i := 0) rfl))
  obtain ⟨fs, hr, hrun, hended, hW, hsame⟩ := X23.leave (v := none) (fun _ => rfl)
  refine ⟨_, _, pre0 _ ?_, hrun, hended, _, _, rfl, ?_, ⟨_, rfl⟩, hW, hsame.mono (by decide) (by decide)⟩
  -- 4. STEPS
  · show Steps p.tables e below (s₁.setTop (mkF m 0 #[.val (.ref a1)] [])) _
    refine XS.iconst X0.here hx rfl (hb hby d7_0) ?_
    show Steps p.tables e below (s₁.setTop (mkF m 1 #[.val (.ref a1)] [(.int (3 : Int32))])) _
    refine XS.aloadN X0.here hx rfl (hb hby d7_1) rfl rfl ?_
    show Steps p.tables e below (s₁.setTop (mkF m 2 #[.val (.ref a1)] [(.ref a1), (.int (3 : Int32))])) _
    refine st3 _ ?_
    show Steps p.tables e below (T3.setTop (mkF m 5 #[.val (.ref a1)] [(.int (0 : Int32)), (.int (3 : Int32))])) _
    refine XS.imul X3.here hx rfl (hb hby d7_5) rfl ?_
    show Steps p.tables e below (T3.setTop (mkF m 6 #[.val (.ref a1)] [(.int ((3 : Int32) * (0 : Int32)))])) _
    refine XS.iconst X3.here hx rfl (hb hby d7_6) ?_
    show Steps p.tables e below (T3.setTop (mkF m 7 #[.val (.ref a1)] [(.int (3 : Int32)), (.int ((3 : Int32) * (0 : Int32)))])) _
    refine XS.iadd X3.here hx rfl (hb hby d7_7) rfl ?_
    show Steps p.tables e below (T3.setTop (mkF m 8 #[.val (.ref a1)] [(.int (((3 : Int32) * (0 : Int32)) + (3 : Int32)))])) _
    refine XS.aloadN X3.here hx rfl (hb hby d7_8) rfl rfl ?_
    show Steps p.tables e below (T3.setTop (mkF m 9 #[.val (.ref a1)] [(.ref a1), (.int (((3 : Int32) * (0 : Int32)) + (3 : Int32)))])) _
    refine st5 _ ?_
    show Steps p.tables e below (T5.setTop (mkF m 12 #[.val (.ref a1)] [(.ref mk), (.int (((3 : Int32) * (0 : Int32)) + (3 : Int32)))])) _
    refine X5.arraylength hx (by rw [e5]; exact Ar_w4.1) (State.isArrayOf_alike hZ.alike Ar_w4.2.1) (g := (mkF m 12 #[.val (.ref a1)] [(.ref mk), (.int (((3 : Int32) * (0 : Int32)) + (3 : Int32)))])) rfl rfl (hb hby d7_12) _ ?_
    rw [len_of S_w4 N_w4]
    show Steps p.tables e below (T5.setTop (mkF m 13 #[.val (.ref a1)] [(.int (96 : Int32)), (.int (((3 : Int32) * (0 : Int32)) + (3 : Int32)))])) _
    refine XS.icmpYes X5.here hx rfl (pc0 := 13) (pc' := 34) rfl (hb hby d7_13) rfl (flt (show ¬ ((96 : Int32) < (((3 : Int32) * (0 : Int32)) + (3 : Int32))) from by decide)).2.2.2 (by decide) (by decide) ?_
    show Steps p.tables e below (T5.setTop (mkF m 34 #[.val (.ref a1)] [])) _
    refine XS.aloadN X5.here hx rfl (hb hby d7_34) rfl rfl ?_
    show Steps p.tables e below (T5.setTop (mkF m 35 #[.val (.ref a1)] [(.ref a1)])) _
    refine st6 _ ?_
    show Steps p.tables e below (T6.setTop (mkF m 38 #[.val (.ref a1)] [(.ref mk)])) _
    refine XS.iconst X6.here hx rfl (hb hby d7_38) ?_
    show Steps p.tables e below (T6.setTop (mkF m 39 #[.val (.ref a1)] [(.int (3 : Int32)), (.ref mk)])) _
    refine XS.aloadN X6.here hx rfl (hb hby d7_39) rfl rfl ?_
    show Steps p.tables e below (T6.setTop (mkF m 40 #[.val (.ref a1)] [(.ref a1), (.int (3 : Int32)), (.ref mk)])) _
    refine st7 _ ?_
    show Steps p.tables e below (T7.setTop (mkF m 43 #[.val (.ref a1)] [(.int (0 : Int32)), (.int (3 : Int32)), (.ref mk)])) _
    refine XS.imul X7.here hx rfl (hb hby d7_43) rfl ?_
    show Steps p.tables e below (T7.setTop (mkF m 44 #[.val (.ref a1)] [(.int ((3 : Int32) * (0 : Int32))), (.ref mk)])) _
    refine XS.aloadN X7.here hx rfl (hb hby d7_44) rfl rfl ?_
    show Steps p.tables e below (T7.setTop (mkF m 45 #[.val (.ref a1)] [(.ref a1), (.int ((3 : Int32) * (0 : Int32))), (.ref mk)])) _
    refine st9 _ ?_
    show Steps p.tables e below (T9.setTop (mkF m 48 #[.val (.ref a1)] [(.int (0 : Int32)), (.int ((3 : Int32) * (0 : Int32))), (.ref mk)])) _
    refine st10 _ ?_
    show Steps p.tables e below (T10.setTop (mkF m 49 #[.val (.ref a1)] [])) _
    refine XS.aloadN X10.here hx rfl (hb hby d7_49) rfl rfl ?_
    show Steps p.tables e below (T10.setTop (mkF m 50 #[.val (.ref a1)] [(.ref a1)])) _
    refine st11 _ ?_
    show Steps p.tables e below (T11.setTop (mkF m 53 #[.val (.ref a1)] [(.ref mk)])) _
    refine XS.iconst X11.here hx rfl (hb hby d7_53) ?_
    show Steps p.tables e below (T11.setTop (mkF m 54 #[.val (.ref a1)] [(.int (3 : Int32)), (.ref mk)])) _
    refine XS.aloadN X11.here hx rfl (hb hby d7_54) rfl rfl ?_
    show Steps p.tables e below (T11.setTop (mkF m 55 #[.val (.ref a1)] [(.ref a1), (.int (3 : Int32)), (.ref mk)])) _
    refine st12 _ ?_
    show Steps p.tables e below (T12.setTop (mkF m 58 #[.val (.ref a1)] [(.int (0 : Int32)), (.int (3 : Int32)), (.ref mk)])) _
    refine XS.imul X12.here hx rfl (hb hby d7_58) rfl ?_
    show Steps p.tables e below (T12.setTop (mkF m 59 #[.val (.ref a1)] [(.int ((3 : Int32) * (0 : Int32))), (.ref mk)])) _
    refine XS.iconst X12.here hx rfl (hb hby d7_59) ?_
    show Steps p.tables e below (T12.setTop (mkF m 60 #[.val (.ref a1)] [(.int (1 : Int32)), (.int ((3 : Int32) * (0 : Int32))), (.ref mk)])) _
    refine XS.iadd X12.here hx rfl (hb hby d7_60) rfl ?_
    show Steps p.tables e below (T12.setTop (mkF m 61 #[.val (.ref a1)] [(.int (((3 : Int32) * (0 : Int32)) + (1 : Int32))), (.ref mk)])) _
    refine XS.aloadN X12.here hx rfl (hb hby d7_61) rfl rfl ?_
    show Steps p.tables e below (T12.setTop (mkF m 62 #[.val (.ref a1)] [(.ref a1), (.int (((3 : Int32) * (0 : Int32)) + (1 : Int32))), (.ref mk)])) _
    refine st14 _ ?_
    show Steps p.tables e below (T14.setTop (mkF m 65 #[.val (.ref a1)] [(.ref b), (.int (((3 : Int32) * (0 : Int32)) + (1 : Int32))), (.ref mk)])) _
    refine st15.trans ?_
    show Steps p.tables e below (T15.setTop (mkF m 68 #[.val (.ref a1)] [(.int (0 : Int32)), (.int (((3 : Int32) * (0 : Int32)) + (1 : Int32))), (.ref mk)])) _
    refine st16 _ ?_
    show Steps p.tables e below (T16.setTop (mkF m 69 #[.val (.ref a1)] [])) _
    refine XS.aloadN X16.here hx rfl (hb hby d7_69) rfl rfl ?_
    show Steps p.tables e below (T16.setTop (mkF m 70 #[.val (.ref a1)] [(.ref a1)])) _
    refine st18 _ ?_
    show Steps p.tables e below (T18.setTop (mkF m 73 #[.val (.ref a1)] [(.ref mk)])) _
    refine XS.iconst X18.here hx rfl (hb hby d7_73) ?_
    show Steps p.tables e below (T18.setTop (mkF m 74 #[.val (.ref a1)] [(.int (3 : Int32)), (.ref mk)])) _
    refine XS.aloadN X18.here hx rfl (hb hby d7_74) rfl rfl ?_
    show Steps p.tables e below (T18.setTop (mkF m 75 #[.val (.ref a1)] [(.ref a1), (.int (3 : Int32)), (.ref mk)])) _
    refine st20 _ ?_
    show Steps p.tables e below (T20.setTop (mkF m 78 #[.val (.ref a1)] [(.int (0 : Int32)), (.int (3 : Int32)), (.ref mk)])) _
    refine XS.imul X20.here hx rfl (hb hby d7_78) rfl ?_
    show Steps p.tables e below (T20.setTop (mkF m 79 #[.val (.ref a1)] [(.int ((3 : Int32) * (0 : Int32))), (.ref mk)])) _
    refine XS.iconst X20.here hx rfl (hb hby d7_79) ?_
    show Steps p.tables e below (T20.setTop (mkF m 80 #[.val (.ref a1)] [(.int (2 : Int32)), (.int ((3 : Int32) * (0 : Int32))), (.ref mk)])) _
    refine XS.iadd X20.here hx rfl (hb hby d7_80) rfl ?_
    show Steps p.tables e below (T20.setTop (mkF m 81 #[.val (.ref a1)] [(.int (((3 : Int32) * (0 : Int32)) + (2 : Int32))), (.ref mk)])) _
    refine XS.aloadN X20.here hx rfl (hb hby d7_81) rfl rfl ?_
    show Steps p.tables e below (T20.setTop (mkF m 82 #[.val (.ref a1)] [(.ref a1), (.int (((3 : Int32) * (0 : Int32)) + (2 : Int32))), (.ref mk)])) _
    refine st22 _ ?_
    show Steps p.tables e below (T22.setTop (mkF m 85 #[.val (.ref a1)] [(.int hl), (.int (((3 : Int32) * (0 : Int32)) + (2 : Int32))), (.ref mk)])) _
    refine st23 _ ?_
    show Steps p.tables e below (T23.setTop (mkF m 86 #[.val (.ref a1)] [])) _
    exact X23.returnOut hx Bd.returns (hb hby d7_86) hr
  · show Q7_0 Z a1 b mk hl vf h0 n0 _ T23.heap _
    rw [e23]
    have q0 := own_set S96 H6 0 0 (by decide)
    have q1 := own_set q0.1 q0.2 1 0 (by decide)
    have q2 := own_set q1.1 q1.2 2 hl (by decide)
    refine ⟨rfl, N23, K23, ⟨((E_a1.wr W10).wr W16).wr W23, (F_count_a1.other W10 (Or.inl am) |>.other W16 (Or.inl am) |>.other W23 (Or.inl am)), (F_held_a1.other W10 (Or.inl am) |>.other W16 (Or.inl am) |>.other W23 (Or.inl am)), (F_namesEnd_a1.other W10 (Or.inl am) |>.other W16 (Or.inl am) |>.other W23 (Or.inl am)), (F_declarations_a1.other W10 (Or.inl am) |>.other W16 (Or.inl am) |>.other W23 (Or.inl am)), (F_marks_a1.other W10 (Or.inl am) |>.other W16 (Or.inl am) |>.other W23 (Or.inl am)), ((E_b.wr W10).wr W16).wr W23, F_b.other W10 (Or.inl bm) |>.other W16 (Or.inl bm) |>.other W23 (Or.inl bm)⟩, _, ((Ar_w4.same W10).same W16).same W23, ?_, ?_⟩
    · rw [I0, I1, I2]; exact q2.1
    · rw [I0, I1, I2]; exact q2.2
def Q7_1 (Z : State) (a1 b mk : Addr) (hl : Int32) (vf : Nat → Int32) (h0 : Heap) (n0 : Nat) (o : Option Value) (h : Heap) (L : List Loc) : Prop := o = none ∧ Fr n0 L ∧ Keep h0 h [mk] ∧ own_O Z h a1 b mk (1 : Int32) hl ∧ own_M Z h mk (own_u 1 hl vf)
set_option maxRecDepth 65536 in
set_option maxHeartbeats 40000000 in
theorem rm7_1 (l : Launch) (Z : State) (a0 : Array Value) (hw : ∀ d ∈ tables_1, d.before a0 Z = true) (ws : List Jvm.Cond) (a1 b mk : Addr) (hl : Int32) (vf : Nat → Int32) (h0 : Heap) (n0 : Nat) (Z0 : n0 ≤ h0.size) (O_ : own_O Z h0 a1 b mk (1 : Int32) hl) (M_ : own_M Z h0 mk vf) (g_w4 : n0 ≤ mk) (am : a1 ≠ mk) (ab : a1 ≠ b) (bm : b ≠ mk) :
    MetFree l (⟨"org/codeweft/fhir/OpenTags", "begin", "()V"⟩ : MethodName) (head1 (Jvm.Cond.code (⟨"org/codeweft/fhir/OpenTags", "begin", "()V"⟩ : MethodName) prog_141_method_4_code 1 none :: ws) ({ frames := 2, cells := 0, slots := 0, locals := 26 } : Room)) (fun a U => a = #[(.ref a1)] ∧ Z.Warmed39 U.vm ∧ U.heap = h0) (fun _ _ _ _ _ => True) (fun _ U o U' => ∃ v L, o = .returned v ∧ Q7_1 Z a1 b mk hl vf h0 n0 v U'.heap L ∧ FrameEnd U o U' L ({ frames := 2, cells := 0, slots := 0, locals := 26 } : Room).cells ({ frames := 2, cells := 0, slots := 0, locals := 26 } : Room).slots) := by
  refine MetFree.of_bodySF (plainFor_of_name pn_7) hisR ?_
  intro p e s m args below meth c s₁ Bd hml0 hP hK
  obtain ⟨rfl, hZ, hh⟩ := hP
  have hx := Bd.exec
  have hby := Bd.bytes
  have hml : c.maxLocals = 1 := hml0
  have hown : s.vm.findClass "org/codeweft/fhir/OpenTags" = some m.cls := findClass_of_methodNamed Bd.named
  have hnm := (name_of_methodNamed Bd.named Bd.method).1
  have X0 : Stand p l e ({ frames := 2, cells := 0, slots := 0, locals := 26 } : Room) s m #[(.ref a1)] below meth c s₁ [] 0 0 := Stand.of_body Bd
  have e0 : s₁.heap = h0 := by rw [← hh, Bd.state]; rfl
  have N0 := Fr.nil n0
  have pre0 : ∀ t, Steps p.tables e below (s₁.setTop (mkF m 0 #[.val (.ref a1)] [])) t → Steps p.tables e below (s₁.setTop (entryFrame m #[(.ref a1)] 1)) t := fun t k => castTop (ef_7 m a1) k
  -- 3. LAWS
  obtain ⟨E_a1, F_count_a1, F_held_a1, F_namesEnd_a1, F_declarations_a1, F_marks_a1, E_b, F_b⟩ := O_
  obtain ⟨cl, Ar_w4, S96, H6⟩ := M_
  have S_w4 : cl.slots.size = ((96 : Int32)).toNatClampNeg := by rw [S96]; decide
  have N_w4 : ¬ (96 : Int32) < 0 := by decide
  have I0 : ((3 : Int32) * (1 : Int32)).toNatClampNeg = 3 := by decide
  have I1 : (((3 : Int32) * (1 : Int32)) + (1 : Int32)).toNatClampNeg = 4 := by decide
  have I2 : (((3 : Int32) * (1 : Int32)) + (2 : Int32)).toNatClampNeg = 5 := by decide
  have hin48 : ¬ (((3 : Int32) * (1 : Int32)) < 0 ∨ cl.slots.size ≤ (((3 : Int32) * (1 : Int32))).toNatClampNeg) := by rw [S96, I0]; decide
  have hin68 : ¬ ((((3 : Int32) * (1 : Int32)) + (1 : Int32)) < 0 ∨ (cl.setSlot ((3 : Int32) * (1 : Int32)).toNatClampNeg (.int (0 : Int32))).slots.size ≤ ((((3 : Int32) * (1 : Int32)) + (1 : Int32))).toNatClampNeg) := by rw [sz_set, S96, I1]; decide
  have hin85 : ¬ ((((3 : Int32) * (1 : Int32)) + (2 : Int32)) < 0 ∨ ((cl.setSlot ((3 : Int32) * (1 : Int32)).toNatClampNeg (.int (0 : Int32))).setSlot (((3 : Int32) * (1 : Int32)) + (1 : Int32)).toNatClampNeg (.int (0 : Int32))).slots.size ≤ ((((3 : Int32) * (1 : Int32)) + (2 : Int32))).toNatClampNeg) := by rw [sz_set, sz_set, S96, I2]; decide
  obtain ⟨T3, X3, e3, st3⟩ := getF X0 hx hZ hown (host := "") (Or.inl (hw _ (List.mem_of_getElem? (i := 42) rfl))) Via.refl e0 F_count_a1 (g := (mkF m 2 #[.val (.ref a1)] [(.ref a1), (.int (3 : Int32))])) rfl rfl (hb hby d7_2)
  obtain ⟨T5, X5, e5, st5⟩ := getF X3 hx hZ hown (host := "") (Or.inl (hw _ (List.mem_of_getElem? (i := 35) rfl))) Via.refl e3 F_marks_a1 (g := (mkF m 9 #[.val (.ref a1)] [(.ref a1), (.int (((3 : Int32) * (1 : Int32)) + (3 : Int32)))])) rfl rfl (hb hby d7_9)
  obtain ⟨T6, X6, e6, st6⟩ := getF X5 hx hZ hown (host := "") (Or.inl (hw _ (List.mem_of_getElem? (i := 35) rfl))) Via.refl e5 F_marks_a1 (g := (mkF m 35 #[.val (.ref a1)] [(.ref a1)])) rfl rfl (hb hby d7_35)
  obtain ⟨T7, X7, e7, st7⟩ := getF X6 hx hZ hown (host := "") (Or.inl (hw _ (List.mem_of_getElem? (i := 42) rfl))) Via.refl e6 F_count_a1 (g := (mkF m 40 #[.val (.ref a1)] [(.ref a1), (.int (3 : Int32)), (.ref mk)])) rfl rfl (hb hby d7_40)
  obtain ⟨T9, X9, e9, st9⟩ := getF X7 hx hZ hown (host := "") (Or.inl (hw _ (List.mem_of_getElem? (i := 56) rfl))) Via.refl e7 F_namesEnd_a1 (g := (mkF m 45 #[.val (.ref a1)] [(.ref a1), (.int ((3 : Int32) * (1 : Int32))), (.ref mk)])) rfl rfl (hb hby d7_45)
  obtain ⟨T10, h10, X10, e10, W10, st10⟩ := stI X9 hx hZ e9 Ar_w4 (j := ((3 : Int32) * (1 : Int32))) hin48 (g := (mkF m 48 #[.val (.ref a1)] [(.int (0 : Int32)), (.int ((3 : Int32) * (1 : Int32))), (.ref mk)])) rfl rfl (hb hby d7_48)
  have N10 := Fr.snoc X10 N0 g_w4
  -- Ar_w4.same W10 : the array with (.int (0 : Int32)) at the place ((3 : Int32) * (1 : Int32))
  have K10 : Keep h0 h10 [mk] := (Keep.refl h0 [mk]).wr W10 (Or.inl (List.mem_of_getElem? (i := 0) rfl))
  obtain ⟨T11, X11, e11, st11⟩ := getF X10 hx hZ hown (host := "") (Or.inl (hw _ (List.mem_of_getElem? (i := 35) rfl))) Via.refl e10 (F_marks_a1.other W10 (Or.inl (am : a1 ≠ mk))) (g := (mkF m 50 #[.val (.ref a1)] [(.ref a1)])) rfl rfl (hb hby d7_50)
  obtain ⟨T12, X12, e12, st12⟩ := getF X11 hx hZ hown (host := "") (Or.inl (hw _ (List.mem_of_getElem? (i := 42) rfl))) Via.refl e11 (F_count_a1.other W10 (Or.inl (am : a1 ≠ mk))) (g := (mkF m 55 #[.val (.ref a1)] [(.ref a1), (.int (3 : Int32)), (.ref mk)])) rfl rfl (hb hby d7_55)
  obtain ⟨T14, X14, e14, st14⟩ := getF X12 hx hZ hown (host := "") (Or.inl (hw _ (List.mem_of_getElem? (i := 29) rfl))) Via.refl e12 (F_declarations_a1.other W10 (Or.inl (am : a1 ≠ mk))) (g := (mkF m 62 #[.val (.ref a1)] [(.ref a1), (.int (((3 : Int32) * (1 : Int32)) + (1 : Int32))), (.ref mk)])) rfl rfl (hb hby d7_62)
  -- pc 65: java/lang/StringBuilder.length by the contract of the body that the receiver's class selects, rm8
  obtain ⟨cq15, kq15, q15a, q15b, q15c⟩ := isOf hZ e14 (E_b.wr W10)
  obtain ⟨_, _, ⟨T15, L15, k15, n15⟩, -, X15, ⟨Lc15, hQ15, l15, y15, z15⟩, st15⟩ := X14.virtualBack hx (y := (⟨"java/lang/StringBuilder", "length", "()I"⟩ : MethodName)) (z := (⟨"java/lang/StringBuilder", "length", "()I"⟩ : MethodName)) hown (mvT hZ (hw _ (List.mem_of_getElem? (i := 58) rfl))) (mvT hZ (hw _ (List.mem_of_getElem? (i := 59) rfl))) (notFace_of_selects (args := #[]) (mvT hZ (hw _ (List.mem_of_getElem? (i := 61) rfl)))) (mvT hZ (hw _ (List.mem_of_getElem? (i := 61) rfl))) (mvT hZ (hw _ (List.mem_of_getElem? (i := 60) rfl))) (by decide) (backOf (W := 2) (rm8 l Z a0 hw [] b h10 n0 (Nat.le_trans Z0 K10.1) (F_b.other W10 (Or.inl bm))) hZ (hw _ (List.mem_of_getElem? (i := 62) rfl)) (hw _ (List.mem_of_getElem? (i := 11) rfl)) (by decide) (by decide)) q15a q15c (g := (mkF m 65 #[.val (.ref a1)] [(.ref b), (.int (((3 : Int32) * (1 : Int32)) + (1 : Int32))), (.ref mk)])) rfl (by rw [hml]; rfl) (Steps.refl _) (argsL := []) (rest := [(.int (((3 : Int32) * (1 : Int32)) + (1 : Int32))), (.ref mk)]) (lenOf pd_7_2 rfl) rfl (by show 2 * 0 + _ ≤ _; exact Nat.le_of_eq rfl) (hb hby d7_65) (fun _ _ => ⟨rfl, e14, (by decide : 0 + 0 ≤ _), (by decide : 0 + 0 ≤ _)⟩)
  dsimp only [Pt.U, Pt.locs, Pt.cells, Pt.slots] at X15 l15 y15 z15 st15 hQ15
  subst l15 y15 z15
  obtain ⟨rfl, N15q, e15⟩ := hQ15      -- what it returned, that it wrote nothing old, and the rest of your Q8
  have N15 := Fr.app N10 N15q
  obtain ⟨T16, h16, X16, e16, W16, st16⟩ := stI X15 hx hZ e15 (Ar_w4.same W10) (j := (((3 : Int32) * (1 : Int32)) + (1 : Int32))) hin68 (g := (mkF m 68 #[.val (.ref a1)] [(.int (0 : Int32)), (.int (((3 : Int32) * (1 : Int32)) + (1 : Int32))), (.ref mk)])) rfl rfl (hb hby d7_68)
  have N16 := Fr.snoc X16 N15 g_w4
  -- Ar_w4.same W16 : the array with (.int (0 : Int32)) at the place (((3 : Int32) * (1 : Int32)) + (1 : Int32))
  have K16 : Keep h0 h16 [mk] := K10.wr W16 (Or.inl (List.mem_of_getElem? (i := 0) rfl))
  obtain ⟨T18, X18, e18, st18⟩ := getF X16 hx hZ hown (host := "") (Or.inl (hw _ (List.mem_of_getElem? (i := 35) rfl))) Via.refl e16 (((F_marks_a1.other W10 (Or.inl (am : a1 ≠ mk)))).other W16 (Or.inl (am : a1 ≠ mk))) (g := (mkF m 70 #[.val (.ref a1)] [(.ref a1)])) rfl rfl (hb hby d7_70)
  obtain ⟨T20, X20, e20, st20⟩ := getF X18 hx hZ hown (host := "") (Or.inl (hw _ (List.mem_of_getElem? (i := 42) rfl))) Via.refl e18 (((F_count_a1.other W10 (Or.inl (am : a1 ≠ mk)))).other W16 (Or.inl (am : a1 ≠ mk))) (g := (mkF m 75 #[.val (.ref a1)] [(.ref a1), (.int (3 : Int32)), (.ref mk)])) rfl rfl (hb hby d7_75)
  obtain ⟨T22, X22, e22, st22⟩ := getF X20 hx hZ hown (host := "") (Or.inl (hw _ (List.mem_of_getElem? (i := 49) rfl))) Via.refl e20 (((F_held_a1.other W10 (Or.inl (am : a1 ≠ mk)))).other W16 (Or.inl (am : a1 ≠ mk))) (g := (mkF m 82 #[.val (.ref a1)] [(.ref a1), (.int (((3 : Int32) * (1 : Int32)) + (2 : Int32))), (.ref mk)])) rfl rfl (hb hby d7_82)
  obtain ⟨T23, h23, X23, e23, W23, st23⟩ := stI X22 hx hZ e22 ((Ar_w4.same W10).same W16) (j := (((3 : Int32) * (1 : Int32)) + (2 : Int32))) hin85 (g := (mkF m 85 #[.val (.ref a1)] [(.int hl), (.int (((3 : Int32) * (1 : Int32)) + (2 : Int32))), (.ref mk)])) rfl rfl (hb hby d7_85)
  have N23 := Fr.snoc X23 N16 g_w4
  -- Ar_w4.same W23 : the array with (.int hl) at the place (((3 : Int32) * (1 : Int32)) + (2 : Int32))
  have K23 : Keep h0 h23 [mk] := K16.wr W23 (Or.inl (List.mem_of_getElem? (i := 0) rfl))
  obtain ⟨fs, hr, hrun, hended, hW, hsame⟩ := X23.leave (v := none) (fun _ => rfl)
  refine ⟨_, _, pre0 _ ?_, hrun, hended, _, _, rfl, ?_, ⟨_, rfl⟩, hW, hsame.mono (by decide) (by decide)⟩
  -- 4. STEPS
  · show Steps p.tables e below (s₁.setTop (mkF m 0 #[.val (.ref a1)] [])) _
    refine XS.iconst X0.here hx rfl (hb hby d7_0) ?_
    show Steps p.tables e below (s₁.setTop (mkF m 1 #[.val (.ref a1)] [(.int (3 : Int32))])) _
    refine XS.aloadN X0.here hx rfl (hb hby d7_1) rfl rfl ?_
    show Steps p.tables e below (s₁.setTop (mkF m 2 #[.val (.ref a1)] [(.ref a1), (.int (3 : Int32))])) _
    refine st3 _ ?_
    show Steps p.tables e below (T3.setTop (mkF m 5 #[.val (.ref a1)] [(.int (1 : Int32)), (.int (3 : Int32))])) _
    refine XS.imul X3.here hx rfl (hb hby d7_5) rfl ?_
    show Steps p.tables e below (T3.setTop (mkF m 6 #[.val (.ref a1)] [(.int ((3 : Int32) * (1 : Int32)))])) _
    refine XS.iconst X3.here hx rfl (hb hby d7_6) ?_
    show Steps p.tables e below (T3.setTop (mkF m 7 #[.val (.ref a1)] [(.int (3 : Int32)), (.int ((3 : Int32) * (1 : Int32)))])) _
    refine XS.iadd X3.here hx rfl (hb hby d7_7) rfl ?_
    show Steps p.tables e below (T3.setTop (mkF m 8 #[.val (.ref a1)] [(.int (((3 : Int32) * (1 : Int32)) + (3 : Int32)))])) _
    refine XS.aloadN X3.here hx rfl (hb hby d7_8) rfl rfl ?_
    show Steps p.tables e below (T3.setTop (mkF m 9 #[.val (.ref a1)] [(.ref a1), (.int (((3 : Int32) * (1 : Int32)) + (3 : Int32)))])) _
    refine st5 _ ?_
    show Steps p.tables e below (T5.setTop (mkF m 12 #[.val (.ref a1)] [(.ref mk), (.int (((3 : Int32) * (1 : Int32)) + (3 : Int32)))])) _
    refine X5.arraylength hx (by rw [e5]; exact Ar_w4.1) (State.isArrayOf_alike hZ.alike Ar_w4.2.1) (g := (mkF m 12 #[.val (.ref a1)] [(.ref mk), (.int (((3 : Int32) * (1 : Int32)) + (3 : Int32)))])) rfl rfl (hb hby d7_12) _ ?_
    rw [len_of S_w4 N_w4]
    show Steps p.tables e below (T5.setTop (mkF m 13 #[.val (.ref a1)] [(.int (96 : Int32)), (.int (((3 : Int32) * (1 : Int32)) + (3 : Int32)))])) _
    refine XS.icmpYes X5.here hx rfl (pc0 := 13) (pc' := 34) rfl (hb hby d7_13) rfl (flt (show ¬ ((96 : Int32) < (((3 : Int32) * (1 : Int32)) + (3 : Int32))) from by decide)).2.2.2 (by decide) (by decide) ?_
    show Steps p.tables e below (T5.setTop (mkF m 34 #[.val (.ref a1)] [])) _
    refine XS.aloadN X5.here hx rfl (hb hby d7_34) rfl rfl ?_
    show Steps p.tables e below (T5.setTop (mkF m 35 #[.val (.ref a1)] [(.ref a1)])) _
    refine st6 _ ?_
    show Steps p.tables e below (T6.setTop (mkF m 38 #[.val (.ref a1)] [(.ref mk)])) _
    refine XS.iconst X6.here hx rfl (hb hby d7_38) ?_
    show Steps p.tables e below (T6.setTop (mkF m 39 #[.val (.ref a1)] [(.int (3 : Int32)), (.ref mk)])) _
    refine XS.aloadN X6.here hx rfl (hb hby d7_39) rfl rfl ?_
    show Steps p.tables e below (T6.setTop (mkF m 40 #[.val (.ref a1)] [(.ref a1), (.int (3 : Int32)), (.ref mk)])) _
    refine st7 _ ?_
    show Steps p.tables e below (T7.setTop (mkF m 43 #[.val (.ref a1)] [(.int (1 : Int32)), (.int (3 : Int32)), (.ref mk)])) _
    refine XS.imul X7.here hx rfl (hb hby d7_43) rfl ?_
    show Steps p.tables e below (T7.setTop (mkF m 44 #[.val (.ref a1)] [(.int ((3 : Int32) * (1 : Int32))), (.ref mk)])) _
    refine XS.aloadN X7.here hx rfl (hb hby d7_44) rfl rfl ?_
    show Steps p.tables e below (T7.setTop (mkF m 45 #[.val (.ref a1)] [(.ref a1), (.int ((3 : Int32) * (1 : Int32))), (.ref mk)])) _
    refine st9 _ ?_
    show Steps p.tables e below (T9.setTop (mkF m 48 #[.val (.ref a1)] [(.int (0 : Int32)), (.int ((3 : Int32) * (1 : Int32))), (.ref mk)])) _
    refine st10 _ ?_
    show Steps p.tables e below (T10.setTop (mkF m 49 #[.val (.ref a1)] [])) _
    refine XS.aloadN X10.here hx rfl (hb hby d7_49) rfl rfl ?_
    show Steps p.tables e below (T10.setTop (mkF m 50 #[.val (.ref a1)] [(.ref a1)])) _
    refine st11 _ ?_
    show Steps p.tables e below (T11.setTop (mkF m 53 #[.val (.ref a1)] [(.ref mk)])) _
    refine XS.iconst X11.here hx rfl (hb hby d7_53) ?_
    show Steps p.tables e below (T11.setTop (mkF m 54 #[.val (.ref a1)] [(.int (3 : Int32)), (.ref mk)])) _
    refine XS.aloadN X11.here hx rfl (hb hby d7_54) rfl rfl ?_
    show Steps p.tables e below (T11.setTop (mkF m 55 #[.val (.ref a1)] [(.ref a1), (.int (3 : Int32)), (.ref mk)])) _
    refine st12 _ ?_
    show Steps p.tables e below (T12.setTop (mkF m 58 #[.val (.ref a1)] [(.int (1 : Int32)), (.int (3 : Int32)), (.ref mk)])) _
    refine XS.imul X12.here hx rfl (hb hby d7_58) rfl ?_
    show Steps p.tables e below (T12.setTop (mkF m 59 #[.val (.ref a1)] [(.int ((3 : Int32) * (1 : Int32))), (.ref mk)])) _
    refine XS.iconst X12.here hx rfl (hb hby d7_59) ?_
    show Steps p.tables e below (T12.setTop (mkF m 60 #[.val (.ref a1)] [(.int (1 : Int32)), (.int ((3 : Int32) * (1 : Int32))), (.ref mk)])) _
    refine XS.iadd X12.here hx rfl (hb hby d7_60) rfl ?_
    show Steps p.tables e below (T12.setTop (mkF m 61 #[.val (.ref a1)] [(.int (((3 : Int32) * (1 : Int32)) + (1 : Int32))), (.ref mk)])) _
    refine XS.aloadN X12.here hx rfl (hb hby d7_61) rfl rfl ?_
    show Steps p.tables e below (T12.setTop (mkF m 62 #[.val (.ref a1)] [(.ref a1), (.int (((3 : Int32) * (1 : Int32)) + (1 : Int32))), (.ref mk)])) _
    refine st14 _ ?_
    show Steps p.tables e below (T14.setTop (mkF m 65 #[.val (.ref a1)] [(.ref b), (.int (((3 : Int32) * (1 : Int32)) + (1 : Int32))), (.ref mk)])) _
    refine st15.trans ?_
    show Steps p.tables e below (T15.setTop (mkF m 68 #[.val (.ref a1)] [(.int (0 : Int32)), (.int (((3 : Int32) * (1 : Int32)) + (1 : Int32))), (.ref mk)])) _
    refine st16 _ ?_
    show Steps p.tables e below (T16.setTop (mkF m 69 #[.val (.ref a1)] [])) _
    refine XS.aloadN X16.here hx rfl (hb hby d7_69) rfl rfl ?_
    show Steps p.tables e below (T16.setTop (mkF m 70 #[.val (.ref a1)] [(.ref a1)])) _
    refine st18 _ ?_
    show Steps p.tables e below (T18.setTop (mkF m 73 #[.val (.ref a1)] [(.ref mk)])) _
    refine XS.iconst X18.here hx rfl (hb hby d7_73) ?_
    show Steps p.tables e below (T18.setTop (mkF m 74 #[.val (.ref a1)] [(.int (3 : Int32)), (.ref mk)])) _
    refine XS.aloadN X18.here hx rfl (hb hby d7_74) rfl rfl ?_
    show Steps p.tables e below (T18.setTop (mkF m 75 #[.val (.ref a1)] [(.ref a1), (.int (3 : Int32)), (.ref mk)])) _
    refine st20 _ ?_
    show Steps p.tables e below (T20.setTop (mkF m 78 #[.val (.ref a1)] [(.int (1 : Int32)), (.int (3 : Int32)), (.ref mk)])) _
    refine XS.imul X20.here hx rfl (hb hby d7_78) rfl ?_
    show Steps p.tables e below (T20.setTop (mkF m 79 #[.val (.ref a1)] [(.int ((3 : Int32) * (1 : Int32))), (.ref mk)])) _
    refine XS.iconst X20.here hx rfl (hb hby d7_79) ?_
    show Steps p.tables e below (T20.setTop (mkF m 80 #[.val (.ref a1)] [(.int (2 : Int32)), (.int ((3 : Int32) * (1 : Int32))), (.ref mk)])) _
    refine XS.iadd X20.here hx rfl (hb hby d7_80) rfl ?_
    show Steps p.tables e below (T20.setTop (mkF m 81 #[.val (.ref a1)] [(.int (((3 : Int32) * (1 : Int32)) + (2 : Int32))), (.ref mk)])) _
    refine XS.aloadN X20.here hx rfl (hb hby d7_81) rfl rfl ?_
    show Steps p.tables e below (T20.setTop (mkF m 82 #[.val (.ref a1)] [(.ref a1), (.int (((3 : Int32) * (1 : Int32)) + (2 : Int32))), (.ref mk)])) _
    refine st22 _ ?_
    show Steps p.tables e below (T22.setTop (mkF m 85 #[.val (.ref a1)] [(.int hl), (.int (((3 : Int32) * (1 : Int32)) + (2 : Int32))), (.ref mk)])) _
    refine st23 _ ?_
    show Steps p.tables e below (T23.setTop (mkF m 86 #[.val (.ref a1)] [])) _
    exact X23.returnOut hx Bd.returns (hb hby d7_86) hr
  · show Q7_1 Z a1 b mk hl vf h0 n0 _ T23.heap _
    rw [e23]
    have q0 := own_set S96 H6 3 0 (by decide)
    have q1 := own_set q0.1 q0.2 4 0 (by decide)
    have q2 := own_set q1.1 q1.2 5 hl (by decide)
    refine ⟨rfl, N23, K23, ⟨((E_a1.wr W10).wr W16).wr W23, (F_count_a1.other W10 (Or.inl am) |>.other W16 (Or.inl am) |>.other W23 (Or.inl am)), (F_held_a1.other W10 (Or.inl am) |>.other W16 (Or.inl am) |>.other W23 (Or.inl am)), (F_namesEnd_a1.other W10 (Or.inl am) |>.other W16 (Or.inl am) |>.other W23 (Or.inl am)), (F_declarations_a1.other W10 (Or.inl am) |>.other W16 (Or.inl am) |>.other W23 (Or.inl am)), (F_marks_a1.other W10 (Or.inl am) |>.other W16 (Or.inl am) |>.other W23 (Or.inl am)), ((E_b.wr W10).wr W16).wr W23, F_b.other W10 (Or.inl bm) |>.other W16 (Or.inl bm) |>.other W23 (Or.inl bm)⟩, _, ((Ar_w4.same W10).same W16).same W23, ?_, ?_⟩
    · rw [I0, I1, I2]; exact q2.1
    · rw [I0, I1, I2]; exact q2.2
theorem d10_0 : decode prog_141_method_7_code 0 = .ok (.aload_n 0, 1) := by decide +kernel
theorem d10_1 : decode prog_141_method_7_code 1 = .ok (.dup, 1) := by decide +kernel
theorem d10_2 : decode prog_141_method_7_code 2 = .ok (.getfield 24, 3) := by decide +kernel
theorem d10_5 : decode prog_141_method_7_code 5 = .ok (.iconst 1, 1) := by decide +kernel
theorem d10_6 : decode prog_141_method_7_code 6 = .ok (.iadd, 1) := by decide +kernel
theorem d10_7 : decode prog_141_method_7_code 7 = .ok (.putfield 24, 3) := by decide +kernel
theorem d10_10 : decode prog_141_method_7_code 10 = .ok (.aload_n 0, 1) := by decide +kernel
theorem d10_11 : decode prog_141_method_7_code 11 = .ok (.dup, 1) := by decide +kernel
theorem d10_12 : decode prog_141_method_7_code 12 = .ok (.getfield 28, 3) := by decide +kernel
theorem d10_15 : decode prog_141_method_7_code 15 = .ok (.lload_n 1, 1) := by decide +kernel
theorem d10_16 : decode prog_141_method_7_code 16 = .ok (.l2i, 1) := by decide +kernel
theorem d10_17 : decode prog_141_method_7_code 17 = .ok (.iadd, 1) := by decide +kernel
theorem d10_18 : decode prog_141_method_7_code 18 = .ok (.putfield 28, 3) := by decide +kernel
theorem d10_21 : decode prog_141_method_7_code 21 = .ok (.return_, 1) := by decide +kernel
theorem pn_10 : plainName "org/codeweft/fhir/OpenTags" = true := by first | (simp [plainName, overriddenIn]; done) | decide +kernel
theorem ef_10 (m : MethodId) (x0 : Addr) (x1 : Int64) : entryFrame m #[(.ref x0), (.long x1)] 3 = mkF m 0 #[.val (.ref x0), .val (.long x1), .second] [] := by first | (simp [entryFrame, mkF, argsToLocals, Value.category]; done) | rfl
def Q10_0 (Z : State) (a1 b mk : Addr) (q2 : Int64) (hl : Int32) (vf : Nat → Int32) (h0 : Heap) (n0 : Nat) (o : Option Value) (h : Heap) (L : List Loc) : Prop := o = none ∧ Fr n0 L ∧ Keep h0 h [a1] ∧ own_O Z h a1 b mk (1 : Int32) (hl + q2.toInt32) ∧ own_M Z h mk vf
set_option maxRecDepth 65536 in
set_option maxHeartbeats 40000000 in
theorem rm10_0 (l : Launch) (Z : State) (a0 : Array Value) (hw : ∀ d ∈ tables_1, d.before a0 Z = true) (ws : List Jvm.Cond) (a1 b mk : Addr) (q2 : Int64) (hl : Int32) (vf : Nat → Int32) (h0 : Heap) (n0 : Nat) (Z0 : n0 ≤ h0.size) (g_a1 : n0 ≤ a1) (O_ : own_O Z h0 a1 b mk (0 : Int32) hl) (M_ : own_M Z h0 mk vf) (g_w4 : n0 ≤ mk) (am : a1 ≠ mk) (ab : a1 ≠ b) (bm : b ≠ mk) :
    MetFree l (⟨"org/codeweft/fhir/OpenTags", "open", "(J)V"⟩ : MethodName) (head1 (Jvm.Cond.code (⟨"org/codeweft/fhir/OpenTags", "open", "(J)V"⟩ : MethodName) prog_141_method_7_code 3 none :: ws) ({ frames := 0, cells := 0, slots := 0, locals := 0 } : Room)) (fun a U => a = #[(.ref a1), (.long q2)] ∧ Z.Warmed39 U.vm ∧ U.heap = h0) (fun _ _ _ _ _ => True) (fun _ U o U' => ∃ v L, o = .returned v ∧ Q10_0 Z a1 b mk q2 hl vf h0 n0 v U'.heap L ∧ FrameEnd U o U' L ({ frames := 0, cells := 0, slots := 0, locals := 0 } : Room).cells ({ frames := 0, cells := 0, slots := 0, locals := 0 } : Room).slots) := by
  refine MetFree.of_bodySF (plainFor_of_name pn_10) hisR ?_
  intro p e s m args below meth c s₁ Bd hml0 hP hK
  obtain ⟨rfl, hZ, hh⟩ := hP
  have hx := Bd.exec
  have hby := Bd.bytes
  have hml : c.maxLocals = 3 := hml0
  have hown : s.vm.findClass "org/codeweft/fhir/OpenTags" = some m.cls := findClass_of_methodNamed Bd.named
  have hnm := (name_of_methodNamed Bd.named Bd.method).1
  have X0 : Stand p l e ({ frames := 0, cells := 0, slots := 0, locals := 0 } : Room) s m #[(.ref a1), (.long q2)] below meth c s₁ [] 0 0 := Stand.of_body Bd
  have e0 : s₁.heap = h0 := by rw [← hh, Bd.state]; rfl
  have N0 := Fr.nil n0
  have pre0 : ∀ t, Steps p.tables e below (s₁.setTop (mkF m 0 #[.val (.ref a1), .val (.long q2), .second] [])) t → Steps p.tables e below (s₁.setTop (entryFrame m #[(.ref a1), (.long q2)] 3)) t := fun t k => castTop (ef_10 m a1 q2) k
  -- 3. LAWS
  obtain ⟨E_a1, F_count_a1, F_held_a1, F_namesEnd_a1, F_declarations_a1, F_marks_a1, E_b, F_b⟩ := O_
  obtain ⟨cl, Ar_w4, S96, H6⟩ := M_
  obtain ⟨T4, X4, e4, st4⟩ := getF X0 hx hZ hown (host := "") (Or.inl (hw _ (List.mem_of_getElem? (i := 42) rfl))) Via.refl e0 F_count_a1 (g := (mkF m 2 #[.val (.ref a1), .val (.long q2), .second] [(.ref a1), (.ref a1)])) rfl rfl (hb hby d10_2)
  obtain ⟨T5, h5, X5, e5, W5, st5⟩ := putF X4 hx hZ hown (host := "") (Or.inl (hw _ (List.mem_of_getElem? (i := 42) rfl))) Via.refl e4 F_count_a1 E_a1 (Or.inl (hw _ (List.mem_of_getElem? (i := 43) rfl))) (hw _ (List.mem_of_getElem? (i := 1) rfl)) (ty := .int) (by decide) rfl rfl (g := (mkF m 7 #[.val (.ref a1), .val (.long q2), .second] [(.int (1 : Int32)), (.ref a1)])) rfl rfl (hb hby d10_7)
  have Fw5 := F_count_a1.same W5      -- the field now holds (.int (1 : Int32))
  have K5 : Keep h0 h5 [a1] := (Keep.refl h0 [a1]).wr W5 (Or.inl (List.mem_of_getElem? (i := 0) rfl))
  have N5 := Fr.snoc X5 N0 g_a1
  obtain ⟨T7, X7, e7, st7⟩ := getF X5 hx hZ hown (host := "") (Or.inl (hw _ (List.mem_of_getElem? (i := 49) rfl))) Via.refl e5 (F_held_a1.other W5 (Or.inr (slot_ne (Or.inl (hw _ (List.mem_of_getElem? (i := 50) rfl))) (Or.inl (hw _ (List.mem_of_getElem? (i := 43) rfl))) (by decide) (t := .int) (t' := .int) (by decide) (by decide)))) (g := (mkF m 12 #[.val (.ref a1), .val (.long q2), .second] [(.ref a1), (.ref a1)])) rfl rfl (hb hby d10_12)
  obtain ⟨T8, h8, X8, e8, W8, st8⟩ := putF X7 hx hZ hown (host := "") (Or.inl (hw _ (List.mem_of_getElem? (i := 49) rfl))) Via.refl e7 (F_held_a1.other W5 (Or.inr (slot_ne (Or.inl (hw _ (List.mem_of_getElem? (i := 50) rfl))) (Or.inl (hw _ (List.mem_of_getElem? (i := 43) rfl))) (by decide) (t := .int) (t' := .int) (by decide) (by decide)))) (E_a1.wr W5) (Or.inl (hw _ (List.mem_of_getElem? (i := 50) rfl))) (hw _ (List.mem_of_getElem? (i := 1) rfl)) (ty := .int) (by decide) rfl rfl (g := (mkF m 18 #[.val (.ref a1), .val (.long q2), .second] [(.int (hl + (q2.toInt32))), (.ref a1)])) rfl rfl (hb hby d10_18)
  have Fw8 := (F_held_a1.other W5 (Or.inr (slot_ne (Or.inl (hw _ (List.mem_of_getElem? (i := 50) rfl))) (Or.inl (hw _ (List.mem_of_getElem? (i := 43) rfl))) (by decide) (t := .int) (t' := .int) (by decide) (by decide)))).same W8      -- the field now holds (.int (hl + (q2.toInt32)))
  have K8 : Keep h0 h8 [a1] := K5.wr W8 (Or.inl (List.mem_of_getElem? (i := 0) rfl))
  have N8 := Fr.snoc X8 N5 g_a1
  obtain ⟨fs, hr, hrun, hended, hW, hsame⟩ := X8.leave (v := none) (fun _ => rfl)
  refine ⟨_, _, pre0 _ ?_, hrun, hended, _, _, rfl, ?_, ⟨_, rfl⟩, hW, hsame.mono (by decide) (by decide)⟩
  -- 4. STEPS
  · show Steps p.tables e below (s₁.setTop (mkF m 0 #[.val (.ref a1), .val (.long q2), .second] [])) _
    refine XS.aloadN X0.here hx rfl (hb hby d10_0) rfl rfl ?_
    show Steps p.tables e below (s₁.setTop (mkF m 1 #[.val (.ref a1), .val (.long q2), .second] [(.ref a1)])) _
    refine XS.dup X0.here hx rfl (hb hby d10_1) rfl rfl ?_
    show Steps p.tables e below (s₁.setTop (mkF m 2 #[.val (.ref a1), .val (.long q2), .second] [(.ref a1), (.ref a1)])) _
    refine st4 _ ?_
    show Steps p.tables e below (T4.setTop (mkF m 5 #[.val (.ref a1), .val (.long q2), .second] [(.int (0 : Int32)), (.ref a1)])) _
    refine XS.iconst X4.here hx rfl (hb hby d10_5) ?_
    show Steps p.tables e below (T4.setTop (mkF m 6 #[.val (.ref a1), .val (.long q2), .second] [(.int (1 : Int32)), (.int (0 : Int32)), (.ref a1)])) _
    refine XS.iadd X4.here hx rfl (hb hby d10_6) rfl ?_
    show Steps p.tables e below (T4.setTop (mkF m 7 #[.val (.ref a1), .val (.long q2), .second] [(.int (1 : Int32)), (.ref a1)])) _
    refine st5 _ ?_
    show Steps p.tables e below (T5.setTop (mkF m 10 #[.val (.ref a1), .val (.long q2), .second] [])) _
    refine XS.aloadN X5.here hx rfl (hb hby d10_10) rfl rfl ?_
    show Steps p.tables e below (T5.setTop (mkF m 11 #[.val (.ref a1), .val (.long q2), .second] [(.ref a1)])) _
    refine XS.dup X5.here hx rfl (hb hby d10_11) rfl rfl ?_
    show Steps p.tables e below (T5.setTop (mkF m 12 #[.val (.ref a1), .val (.long q2), .second] [(.ref a1), (.ref a1)])) _
    refine st7 _ ?_
    show Steps p.tables e below (T7.setTop (mkF m 15 #[.val (.ref a1), .val (.long q2), .second] [(.int hl), (.ref a1)])) _
    refine XS.lloadN X7.here hx rfl (hb hby d10_15) rfl ?_
    show Steps p.tables e below (T7.setTop (mkF m 16 #[.val (.ref a1), .val (.long q2), .second] [(.long q2), (.int hl), (.ref a1)])) _
    refine XS.l2i X7.here hx rfl (hb hby d10_16) rfl ?_
    show Steps p.tables e below (T7.setTop (mkF m 17 #[.val (.ref a1), .val (.long q2), .second] [(.int (q2.toInt32)), (.int hl), (.ref a1)])) _
    refine XS.iadd X7.here hx rfl (hb hby d10_17) rfl ?_
    show Steps p.tables e below (T7.setTop (mkF m 18 #[.val (.ref a1), .val (.long q2), .second] [(.int (hl + (q2.toInt32))), (.ref a1)])) _
    refine st8 _ ?_
    show Steps p.tables e below (T8.setTop (mkF m 21 #[.val (.ref a1), .val (.long q2), .second] [])) _
    exact X8.returnOut hx Bd.returns (hb hby d10_21) hr
  · show Q10_0 Z a1 b mk q2 hl vf h0 n0 _ T8.heap _
    rw [e8]
    exact ⟨rfl, N8, K8, ⟨(E_a1.wr W5).wr W8, Fw5.other W8 (Or.inr (slot_ne (Or.inl (hw _ (List.mem_of_getElem? (i := 43) rfl))) (Or.inl (hw _ (List.mem_of_getElem? (i := 50) rfl))) (by decide) (t := .int) (t' := .int) (by decide) (by decide))), Fw8, (F_namesEnd_a1.other W5 (Or.inr (slot_ne (Or.inl (hw _ (List.mem_of_getElem? (i := 57) rfl))) (Or.inl (hw _ (List.mem_of_getElem? (i := 43) rfl))) (by decide) (t := .int) (t' := .int) (by decide) (by decide))) |>.other W8 (Or.inr (slot_ne (Or.inl (hw _ (List.mem_of_getElem? (i := 57) rfl))) (Or.inl (hw _ (List.mem_of_getElem? (i := 50) rfl))) (by decide) (t := .int) (t' := .int) (by decide) (by decide)))), (F_declarations_a1.other W5 (Or.inr (slot_ne (Or.inr (hw _ (List.mem_of_getElem? (i := 30) rfl))) (Or.inl (hw _ (List.mem_of_getElem? (i := 43) rfl))) (by decide) (t := (.object "java/lang/StringBuilder")) (t' := .int) (by decide) (by decide))) |>.other W8 (Or.inr (slot_ne (Or.inr (hw _ (List.mem_of_getElem? (i := 30) rfl))) (Or.inl (hw _ (List.mem_of_getElem? (i := 50) rfl))) (by decide) (t := (.object "java/lang/StringBuilder")) (t' := .int) (by decide) (by decide)))), (F_marks_a1.other W5 (Or.inr (slot_ne (Or.inl (hw _ (List.mem_of_getElem? (i := 36) rfl))) (Or.inl (hw _ (List.mem_of_getElem? (i := 43) rfl))) (by decide) (t := (.array .int)) (t' := .int) (by decide) (by decide))) |>.other W8 (Or.inr (slot_ne (Or.inl (hw _ (List.mem_of_getElem? (i := 36) rfl))) (Or.inl (hw _ (List.mem_of_getElem? (i := 50) rfl))) (by decide) (t := (.array .int)) (t' := .int) (by decide) (by decide)))), (E_b.wr W5).wr W8, F_b.other W5 (Or.inl ab.symm) |>.other W8 (Or.inl ab.symm)⟩, cl, (Ar_w4.other W5 am.symm).other W8 am.symm, S96, H6⟩
def Q10_1 (Z : State) (a1 b mk : Addr) (q2 : Int64) (hl : Int32) (vf : Nat → Int32) (h0 : Heap) (n0 : Nat) (o : Option Value) (h : Heap) (L : List Loc) : Prop := o = none ∧ Fr n0 L ∧ Keep h0 h [a1] ∧ own_O Z h a1 b mk (2 : Int32) (hl + q2.toInt32) ∧ own_M Z h mk vf
set_option maxRecDepth 65536 in
set_option maxHeartbeats 40000000 in
theorem rm10_1 (l : Launch) (Z : State) (a0 : Array Value) (hw : ∀ d ∈ tables_1, d.before a0 Z = true) (ws : List Jvm.Cond) (a1 b mk : Addr) (q2 : Int64) (hl : Int32) (vf : Nat → Int32) (h0 : Heap) (n0 : Nat) (Z0 : n0 ≤ h0.size) (g_a1 : n0 ≤ a1) (O_ : own_O Z h0 a1 b mk (1 : Int32) hl) (M_ : own_M Z h0 mk vf) (g_w4 : n0 ≤ mk) (am : a1 ≠ mk) (ab : a1 ≠ b) (bm : b ≠ mk) :
    MetFree l (⟨"org/codeweft/fhir/OpenTags", "open", "(J)V"⟩ : MethodName) (head1 (Jvm.Cond.code (⟨"org/codeweft/fhir/OpenTags", "open", "(J)V"⟩ : MethodName) prog_141_method_7_code 3 none :: ws) ({ frames := 0, cells := 0, slots := 0, locals := 0 } : Room)) (fun a U => a = #[(.ref a1), (.long q2)] ∧ Z.Warmed39 U.vm ∧ U.heap = h0) (fun _ _ _ _ _ => True) (fun _ U o U' => ∃ v L, o = .returned v ∧ Q10_1 Z a1 b mk q2 hl vf h0 n0 v U'.heap L ∧ FrameEnd U o U' L ({ frames := 0, cells := 0, slots := 0, locals := 0 } : Room).cells ({ frames := 0, cells := 0, slots := 0, locals := 0 } : Room).slots) := by
  refine MetFree.of_bodySF (plainFor_of_name pn_10) hisR ?_
  intro p e s m args below meth c s₁ Bd hml0 hP hK
  obtain ⟨rfl, hZ, hh⟩ := hP
  have hx := Bd.exec
  have hby := Bd.bytes
  have hml : c.maxLocals = 3 := hml0
  have hown : s.vm.findClass "org/codeweft/fhir/OpenTags" = some m.cls := findClass_of_methodNamed Bd.named
  have hnm := (name_of_methodNamed Bd.named Bd.method).1
  have X0 : Stand p l e ({ frames := 0, cells := 0, slots := 0, locals := 0 } : Room) s m #[(.ref a1), (.long q2)] below meth c s₁ [] 0 0 := Stand.of_body Bd
  have e0 : s₁.heap = h0 := by rw [← hh, Bd.state]; rfl
  have N0 := Fr.nil n0
  have pre0 : ∀ t, Steps p.tables e below (s₁.setTop (mkF m 0 #[.val (.ref a1), .val (.long q2), .second] [])) t → Steps p.tables e below (s₁.setTop (entryFrame m #[(.ref a1), (.long q2)] 3)) t := fun t k => castTop (ef_10 m a1 q2) k
  -- 3. LAWS
  obtain ⟨E_a1, F_count_a1, F_held_a1, F_namesEnd_a1, F_declarations_a1, F_marks_a1, E_b, F_b⟩ := O_
  obtain ⟨cl, Ar_w4, S96, H6⟩ := M_
  obtain ⟨T4, X4, e4, st4⟩ := getF X0 hx hZ hown (host := "") (Or.inl (hw _ (List.mem_of_getElem? (i := 42) rfl))) Via.refl e0 F_count_a1 (g := (mkF m 2 #[.val (.ref a1), .val (.long q2), .second] [(.ref a1), (.ref a1)])) rfl rfl (hb hby d10_2)
  obtain ⟨T5, h5, X5, e5, W5, st5⟩ := putF X4 hx hZ hown (host := "") (Or.inl (hw _ (List.mem_of_getElem? (i := 42) rfl))) Via.refl e4 F_count_a1 E_a1 (Or.inl (hw _ (List.mem_of_getElem? (i := 43) rfl))) (hw _ (List.mem_of_getElem? (i := 1) rfl)) (ty := .int) (by decide) rfl rfl (g := (mkF m 7 #[.val (.ref a1), .val (.long q2), .second] [(.int (2 : Int32)), (.ref a1)])) rfl rfl (hb hby d10_7)
  have Fw5 := F_count_a1.same W5      -- the field now holds (.int (2 : Int32))
  have K5 : Keep h0 h5 [a1] := (Keep.refl h0 [a1]).wr W5 (Or.inl (List.mem_of_getElem? (i := 0) rfl))
  have N5 := Fr.snoc X5 N0 g_a1
  obtain ⟨T7, X7, e7, st7⟩ := getF X5 hx hZ hown (host := "") (Or.inl (hw _ (List.mem_of_getElem? (i := 49) rfl))) Via.refl e5 (F_held_a1.other W5 (Or.inr (slot_ne (Or.inl (hw _ (List.mem_of_getElem? (i := 50) rfl))) (Or.inl (hw _ (List.mem_of_getElem? (i := 43) rfl))) (by decide) (t := .int) (t' := .int) (by decide) (by decide)))) (g := (mkF m 12 #[.val (.ref a1), .val (.long q2), .second] [(.ref a1), (.ref a1)])) rfl rfl (hb hby d10_12)
  obtain ⟨T8, h8, X8, e8, W8, st8⟩ := putF X7 hx hZ hown (host := "") (Or.inl (hw _ (List.mem_of_getElem? (i := 49) rfl))) Via.refl e7 (F_held_a1.other W5 (Or.inr (slot_ne (Or.inl (hw _ (List.mem_of_getElem? (i := 50) rfl))) (Or.inl (hw _ (List.mem_of_getElem? (i := 43) rfl))) (by decide) (t := .int) (t' := .int) (by decide) (by decide)))) (E_a1.wr W5) (Or.inl (hw _ (List.mem_of_getElem? (i := 50) rfl))) (hw _ (List.mem_of_getElem? (i := 1) rfl)) (ty := .int) (by decide) rfl rfl (g := (mkF m 18 #[.val (.ref a1), .val (.long q2), .second] [(.int (hl + (q2.toInt32))), (.ref a1)])) rfl rfl (hb hby d10_18)
  have Fw8 := (F_held_a1.other W5 (Or.inr (slot_ne (Or.inl (hw _ (List.mem_of_getElem? (i := 50) rfl))) (Or.inl (hw _ (List.mem_of_getElem? (i := 43) rfl))) (by decide) (t := .int) (t' := .int) (by decide) (by decide)))).same W8      -- the field now holds (.int (hl + (q2.toInt32)))
  have K8 : Keep h0 h8 [a1] := K5.wr W8 (Or.inl (List.mem_of_getElem? (i := 0) rfl))
  have N8 := Fr.snoc X8 N5 g_a1
  obtain ⟨fs, hr, hrun, hended, hW, hsame⟩ := X8.leave (v := none) (fun _ => rfl)
  refine ⟨_, _, pre0 _ ?_, hrun, hended, _, _, rfl, ?_, ⟨_, rfl⟩, hW, hsame.mono (by decide) (by decide)⟩
  -- 4. STEPS
  · show Steps p.tables e below (s₁.setTop (mkF m 0 #[.val (.ref a1), .val (.long q2), .second] [])) _
    refine XS.aloadN X0.here hx rfl (hb hby d10_0) rfl rfl ?_
    show Steps p.tables e below (s₁.setTop (mkF m 1 #[.val (.ref a1), .val (.long q2), .second] [(.ref a1)])) _
    refine XS.dup X0.here hx rfl (hb hby d10_1) rfl rfl ?_
    show Steps p.tables e below (s₁.setTop (mkF m 2 #[.val (.ref a1), .val (.long q2), .second] [(.ref a1), (.ref a1)])) _
    refine st4 _ ?_
    show Steps p.tables e below (T4.setTop (mkF m 5 #[.val (.ref a1), .val (.long q2), .second] [(.int (1 : Int32)), (.ref a1)])) _
    refine XS.iconst X4.here hx rfl (hb hby d10_5) ?_
    show Steps p.tables e below (T4.setTop (mkF m 6 #[.val (.ref a1), .val (.long q2), .second] [(.int (1 : Int32)), (.int (1 : Int32)), (.ref a1)])) _
    refine XS.iadd X4.here hx rfl (hb hby d10_6) rfl ?_
    show Steps p.tables e below (T4.setTop (mkF m 7 #[.val (.ref a1), .val (.long q2), .second] [(.int (2 : Int32)), (.ref a1)])) _
    refine st5 _ ?_
    show Steps p.tables e below (T5.setTop (mkF m 10 #[.val (.ref a1), .val (.long q2), .second] [])) _
    refine XS.aloadN X5.here hx rfl (hb hby d10_10) rfl rfl ?_
    show Steps p.tables e below (T5.setTop (mkF m 11 #[.val (.ref a1), .val (.long q2), .second] [(.ref a1)])) _
    refine XS.dup X5.here hx rfl (hb hby d10_11) rfl rfl ?_
    show Steps p.tables e below (T5.setTop (mkF m 12 #[.val (.ref a1), .val (.long q2), .second] [(.ref a1), (.ref a1)])) _
    refine st7 _ ?_
    show Steps p.tables e below (T7.setTop (mkF m 15 #[.val (.ref a1), .val (.long q2), .second] [(.int hl), (.ref a1)])) _
    refine XS.lloadN X7.here hx rfl (hb hby d10_15) rfl ?_
    show Steps p.tables e below (T7.setTop (mkF m 16 #[.val (.ref a1), .val (.long q2), .second] [(.long q2), (.int hl), (.ref a1)])) _
    refine XS.l2i X7.here hx rfl (hb hby d10_16) rfl ?_
    show Steps p.tables e below (T7.setTop (mkF m 17 #[.val (.ref a1), .val (.long q2), .second] [(.int (q2.toInt32)), (.int hl), (.ref a1)])) _
    refine XS.iadd X7.here hx rfl (hb hby d10_17) rfl ?_
    show Steps p.tables e below (T7.setTop (mkF m 18 #[.val (.ref a1), .val (.long q2), .second] [(.int (hl + (q2.toInt32))), (.ref a1)])) _
    refine st8 _ ?_
    show Steps p.tables e below (T8.setTop (mkF m 21 #[.val (.ref a1), .val (.long q2), .second] [])) _
    exact X8.returnOut hx Bd.returns (hb hby d10_21) hr
  · show Q10_1 Z a1 b mk q2 hl vf h0 n0 _ T8.heap _
    rw [e8]
    exact ⟨rfl, N8, K8, ⟨(E_a1.wr W5).wr W8, Fw5.other W8 (Or.inr (slot_ne (Or.inl (hw _ (List.mem_of_getElem? (i := 43) rfl))) (Or.inl (hw _ (List.mem_of_getElem? (i := 50) rfl))) (by decide) (t := .int) (t' := .int) (by decide) (by decide))), Fw8, (F_namesEnd_a1.other W5 (Or.inr (slot_ne (Or.inl (hw _ (List.mem_of_getElem? (i := 57) rfl))) (Or.inl (hw _ (List.mem_of_getElem? (i := 43) rfl))) (by decide) (t := .int) (t' := .int) (by decide) (by decide))) |>.other W8 (Or.inr (slot_ne (Or.inl (hw _ (List.mem_of_getElem? (i := 57) rfl))) (Or.inl (hw _ (List.mem_of_getElem? (i := 50) rfl))) (by decide) (t := .int) (t' := .int) (by decide) (by decide)))), (F_declarations_a1.other W5 (Or.inr (slot_ne (Or.inr (hw _ (List.mem_of_getElem? (i := 30) rfl))) (Or.inl (hw _ (List.mem_of_getElem? (i := 43) rfl))) (by decide) (t := (.object "java/lang/StringBuilder")) (t' := .int) (by decide) (by decide))) |>.other W8 (Or.inr (slot_ne (Or.inr (hw _ (List.mem_of_getElem? (i := 30) rfl))) (Or.inl (hw _ (List.mem_of_getElem? (i := 50) rfl))) (by decide) (t := (.object "java/lang/StringBuilder")) (t' := .int) (by decide) (by decide)))), (F_marks_a1.other W5 (Or.inr (slot_ne (Or.inl (hw _ (List.mem_of_getElem? (i := 36) rfl))) (Or.inl (hw _ (List.mem_of_getElem? (i := 43) rfl))) (by decide) (t := (.array .int)) (t' := .int) (by decide) (by decide))) |>.other W8 (Or.inr (slot_ne (Or.inl (hw _ (List.mem_of_getElem? (i := 36) rfl))) (Or.inl (hw _ (List.mem_of_getElem? (i := 50) rfl))) (by decide) (t := (.array .int)) (t' := .int) (by decide) (by decide)))), (E_b.wr W5).wr W8, F_b.other W5 (Or.inl ab.symm) |>.other W8 (Or.inl ab.symm)⟩, cl, (Ar_w4.other W5 am.symm).other W8 am.symm, S96, H6⟩
theorem d12_0 : decode prog_141_method_12_code 0 = .ok (.aload_n 0, 1) := by decide +kernel
theorem d12_1 : decode prog_141_method_12_code 1 = .ok (.aload_n 0, 1) := by decide +kernel
theorem d12_2 : decode prog_141_method_12_code 2 = .ok (.getfield 20, 3) := by decide +kernel
theorem d12_5 : decode prog_141_method_12_code 5 = .ok (.iconst 3, 1) := by decide +kernel
theorem d12_6 : decode prog_141_method_12_code 6 = .ok (.iload_n 1, 1) := by decide +kernel
theorem d12_7 : decode prog_141_method_12_code 7 = .ok (.imul, 1) := by decide +kernel
theorem d12_8 : decode prog_141_method_12_code 8 = .ok (.iaload, 1) := by decide +kernel
theorem d12_9 : decode prog_141_method_12_code 9 = .ok (.putfield 37, 3) := by decide +kernel
theorem d12_12 : decode prog_141_method_12_code 12 = .ok (.aload_n 0, 1) := by decide +kernel
theorem d12_13 : decode prog_141_method_12_code 13 = .ok (.getfield 10, 3) := by decide +kernel
theorem d12_16 : decode prog_141_method_12_code 16 = .ok (.invokevirtual 40, 3) := by decide +kernel
theorem d12_19 : decode prog_141_method_12_code 19 = .ok (.aload_n 0, 1) := by decide +kernel
theorem d12_20 : decode prog_141_method_12_code 20 = .ok (.getfield 20, 3) := by decide +kernel
theorem d12_23 : decode prog_141_method_12_code 23 = .ok (.iconst 3, 1) := by decide +kernel
theorem d12_24 : decode prog_141_method_12_code 24 = .ok (.iload_n 1, 1) := by decide +kernel
theorem d12_25 : decode prog_141_method_12_code 25 = .ok (.imul, 1) := by decide +kernel
theorem d12_26 : decode prog_141_method_12_code 26 = .ok (.iconst 1, 1) := by decide +kernel
theorem d12_27 : decode prog_141_method_12_code 27 = .ok (.iadd, 1) := by decide +kernel
theorem d12_28 : decode prog_141_method_12_code 28 = .ok (.iaload, 1) := by decide +kernel
theorem d12_29 : decode prog_141_method_12_code 29 = .ok (.if_icmp .eq 20, 3) := by decide +kernel
theorem d12_49 : decode prog_141_method_12_code 49 = .ok (.aload_n 0, 1) := by decide +kernel
theorem d12_50 : decode prog_141_method_12_code 50 = .ok (.aload_n 0, 1) := by decide +kernel
theorem d12_51 : decode prog_141_method_12_code 51 = .ok (.getfield 20, 3) := by decide +kernel
theorem d12_54 : decode prog_141_method_12_code 54 = .ok (.iconst 3, 1) := by decide +kernel
theorem d12_55 : decode prog_141_method_12_code 55 = .ok (.iload_n 1, 1) := by decide +kernel
theorem d12_56 : decode prog_141_method_12_code 56 = .ok (.imul, 1) := by decide +kernel
theorem d12_57 : decode prog_141_method_12_code 57 = .ok (.iconst 2, 1) := by decide +kernel
theorem d12_58 : decode prog_141_method_12_code 58 = .ok (.iadd, 1) := by decide +kernel
theorem d12_59 : decode prog_141_method_12_code 59 = .ok (.iaload, 1) := by decide +kernel
theorem d12_60 : decode prog_141_method_12_code 60 = .ok (.putfield 28, 3) := by decide +kernel
theorem d12_63 : decode prog_141_method_12_code 63 = .ok (.return_, 1) := by decide +kernel
theorem pn_12 : plainName "org/codeweft/fhir/OpenTags" = true := by first | (simp [plainName, overriddenIn]; done) | decide +kernel
theorem pd_12_2 : parseMethodDescriptor "()I" = some ⟨[], some .int⟩ := by decide +kernel
theorem ef_12 (m : MethodId) (x0 : Addr) (x1 : Int32) : entryFrame m #[(.ref x0), (.int x1)] 2 = mkF m 0 #[.val (.ref x0), .val (.int x1)] [] := by first | (simp [entryFrame, mkF, argsToLocals, Value.category]; done) | rfl
def Q12_0 (Z : State) (a1 b mk : Addr) (hl : Int32) (vf : Nat → Int32) (h0 : Heap) (n0 : Nat) (o : Option Value) (h : Heap) (L : List Loc) : Prop := o = none ∧ Fr n0 L ∧ Keep h0 h [a1] ∧ own_O Z h a1 b mk (0 : Int32) (vf 2) ∧ own_M Z h mk vf
set_option maxRecDepth 65536 in
set_option maxHeartbeats 40000000 in
theorem rm12_0 (l : Launch) (Z : State) (a0 : Array Value) (hw : ∀ d ∈ tables_1, d.before a0 Z = true) (ws : List Jvm.Cond) (a1 b mk : Addr) (hl : Int32) (vf : Nat → Int32) (h0 : Heap) (n0 : Nat) (Z0 : n0 ≤ h0.size) (g_a1 : n0 ≤ a1) (O_ : own_O Z h0 a1 b mk (0 : Int32) hl) (M_ : own_M Z h0 mk vf) (g_w4 : n0 ≤ mk) (am : a1 ≠ mk) (ab : a1 ≠ b) (bm : b ≠ mk) (v0 : vf 0 = 0) (v1 : vf 1 = 0) :
    MetFree l (⟨"org/codeweft/fhir/OpenTags", "truncate", "(I)V"⟩ : MethodName) (head1 (Jvm.Cond.code (⟨"org/codeweft/fhir/OpenTags", "truncate", "(I)V"⟩ : MethodName) prog_141_method_12_code 2 none :: ws) ({ frames := 2, cells := 0, slots := 0, locals := 24 } : Room)) (fun a U => a = #[(.ref a1), (.int (0 : Int32))] ∧ Z.Warmed39 U.vm ∧ U.heap = h0) (fun _ _ _ _ _ => True) (fun _ U o U' => ∃ v L, o = .returned v ∧ Q12_0 Z a1 b mk hl vf h0 n0 v U'.heap L ∧ FrameEnd U o U' L ({ frames := 2, cells := 0, slots := 0, locals := 24 } : Room).cells ({ frames := 2, cells := 0, slots := 0, locals := 24 } : Room).slots) := by
  refine MetFree.of_bodySF (plainFor_of_name pn_12) hisR ?_
  intro p e s m args below meth c s₁ Bd hml0 hP hK
  obtain ⟨rfl, hZ, hh⟩ := hP
  have hx := Bd.exec
  have hby := Bd.bytes
  have hml : c.maxLocals = 2 := hml0
  have hown : s.vm.findClass "org/codeweft/fhir/OpenTags" = some m.cls := findClass_of_methodNamed Bd.named
  have hnm := (name_of_methodNamed Bd.named Bd.method).1
  have X0 : Stand p l e ({ frames := 2, cells := 0, slots := 0, locals := 24 } : Room) s m #[(.ref a1), (.int (0 : Int32))] below meth c s₁ [] 0 0 := Stand.of_body Bd
  have e0 : s₁.heap = h0 := by rw [← hh, Bd.state]; rfl
  have N0 := Fr.nil n0
  have pre0 : ∀ t, Steps p.tables e below (s₁.setTop (mkF m 0 #[.val (.ref a1), .val (.int (0 : Int32))] [])) t → Steps p.tables e below (s₁.setTop (entryFrame m #[(.ref a1), (.int (0 : Int32))] 2)) t := fun t k => castTop (ef_12 m a1 (0 : Int32)) k
  -- 3. LAWS
  obtain ⟨E_a1, F_count_a1, F_held_a1, F_namesEnd_a1, F_declarations_a1, F_marks_a1, E_b, F_b⟩ := O_
  obtain ⟨cl, Ar_w3, S96, H6⟩ := M_
  have I0 : ((3 : Int32) * (0 : Int32)).toNatClampNeg = 0 := by decide
  have I1 : (((3 : Int32) * (0 : Int32)) + (1 : Int32)).toNatClampNeg = 1 := by decide
  have I2 : (((3 : Int32) * (0 : Int32)) + (2 : Int32)).toNatClampNeg = 2 := by decide
  have hin8 : ¬ (((3 : Int32) * (0 : Int32)) < 0 ∨ cl.slots.size ≤ (((3 : Int32) * (0 : Int32))).toNatClampNeg) := by rw [S96, I0]; decide
  have hat8 : cl.slots[(((3 : Int32) * (0 : Int32))).toNatClampNeg]? = some (.int (0 : Int32)) := by rw [I0, H6 _ (by decide), v0]
  have hin28 : ¬ ((((3 : Int32) * (0 : Int32)) + (1 : Int32)) < 0 ∨ cl.slots.size ≤ ((((3 : Int32) * (0 : Int32)) + (1 : Int32))).toNatClampNeg) := by rw [S96, I1]; decide
  have hat28 : cl.slots[((((3 : Int32) * (0 : Int32)) + (1 : Int32))).toNatClampNeg]? = some (.int (0 : Int32)) := by rw [I1, H6 _ (by decide), v1]
  have hin59 : ¬ ((((3 : Int32) * (0 : Int32)) + (2 : Int32)) < 0 ∨ cl.slots.size ≤ ((((3 : Int32) * (0 : Int32)) + (2 : Int32))).toNatClampNeg) := by rw [S96, I2]; decide
  have hat59 : cl.slots[((((3 : Int32) * (0 : Int32)) + (2 : Int32))).toNatClampNeg]? = some (.int (vf 2)) := by rw [I2]; exact H6 _ (by decide)
  obtain ⟨T4, X4, e4, st4⟩ := getF X0 hx hZ hown (host := "") (Or.inl (hw _ (List.mem_of_getElem? (i := 35) rfl))) Via.refl e0 F_marks_a1 (g := (mkF m 2 #[.val (.ref a1), .val (.int (0 : Int32))] [(.ref a1), (.ref a1)])) rfl rfl (hb hby d12_2)
  obtain ⟨T6, h6, X6, e6, W6, st6⟩ := putF X4 hx hZ hown (host := "") (Or.inl (hw _ (List.mem_of_getElem? (i := 56) rfl))) Via.refl e4 F_namesEnd_a1 E_a1 (Or.inl (hw _ (List.mem_of_getElem? (i := 57) rfl))) (hw _ (List.mem_of_getElem? (i := 1) rfl)) (ty := .int) (by decide) rfl rfl (g := (mkF m 9 #[.val (.ref a1), .val (.int (0 : Int32))] [(.int (0 : Int32)), (.ref a1)])) rfl rfl (hb hby d12_9)
  have Fw6 := F_namesEnd_a1.same W6      -- the field now holds (.int (0 : Int32))
  have K6 : Keep h0 h6 [a1] := (Keep.refl h0 [a1]).wr W6 (Or.inl (List.mem_of_getElem? (i := 0) rfl))
  have N6 := Fr.snoc X6 N0 g_a1
  have Ar_w10 : Arr Z h6 mk cl .int := Ar_w3.other W6 am.symm
  obtain ⟨T8, X8, e8, st8⟩ := getF X6 hx hZ hown (host := "") (Or.inl (hw _ (List.mem_of_getElem? (i := 29) rfl))) Via.refl e6 (F_declarations_a1.other W6 (Or.inr (slot_ne (Or.inr (hw _ (List.mem_of_getElem? (i := 30) rfl))) (Or.inl (hw _ (List.mem_of_getElem? (i := 57) rfl))) (by decide) (t := (.object "java/lang/StringBuilder")) (t' := .int) (by decide) (by decide)))) (g := (mkF m 13 #[.val (.ref a1), .val (.int (0 : Int32))] [(.ref a1)])) rfl rfl (hb hby d12_13)
  -- pc 16: java/lang/StringBuilder.length by the contract of the body that the receiver's class selects, rm8
  obtain ⟨cq9, kq9, q9a, q9b, q9c⟩ := isOf hZ e8 (E_b.wr W6)
  obtain ⟨_, _, ⟨T9, L9, k9, n9⟩, -, X9, ⟨Lc9, hQ9, l9, y9, z9⟩, st9⟩ := X8.virtualBack hx (y := (⟨"java/lang/StringBuilder", "length", "()I"⟩ : MethodName)) (z := (⟨"java/lang/StringBuilder", "length", "()I"⟩ : MethodName)) hown (mvT hZ (hw _ (List.mem_of_getElem? (i := 58) rfl))) (mvT hZ (hw _ (List.mem_of_getElem? (i := 59) rfl))) (notFace_of_selects (args := #[]) (mvT hZ (hw _ (List.mem_of_getElem? (i := 61) rfl)))) (mvT hZ (hw _ (List.mem_of_getElem? (i := 61) rfl))) (mvT hZ (hw _ (List.mem_of_getElem? (i := 60) rfl))) (by decide) (backOf (W := 0) (rm8 l Z a0 hw [] b h6 n0 (Nat.le_trans Z0 K6.1) (F_b.other W6 (Or.inl ab.symm))) hZ (hw _ (List.mem_of_getElem? (i := 62) rfl)) (hw _ (List.mem_of_getElem? (i := 11) rfl)) (by decide) (by decide)) q9a q9c (g := (mkF m 16 #[.val (.ref a1), .val (.int (0 : Int32))] [(.ref b)])) rfl (by rw [hml]; rfl) (Steps.refl _) (argsL := []) (rest := []) (lenOf pd_12_2 rfl) rfl (by show 2 * 0 + _ ≤ _; exact Nat.le_of_eq rfl) (hb hby d12_16) (fun _ _ => ⟨rfl, e8, (by decide : 0 + 0 ≤ _), (by decide : 0 + 0 ≤ _)⟩)
  dsimp only [Pt.U, Pt.locs, Pt.cells, Pt.slots] at X9 l9 y9 z9 st9 hQ9
  subst l9 y9 z9
  obtain ⟨rfl, N9q, e9⟩ := hQ9      -- what it returned, that it wrote nothing old, and the rest of your Q8
  have N9 := Fr.app N6 N9q
  obtain ⟨T11, X11, e11, st11⟩ := getF X9 hx hZ hown (host := "") (Or.inl (hw _ (List.mem_of_getElem? (i := 35) rfl))) Via.refl e9 ((F_marks_a1.other W6 (Or.inr (slot_ne (Or.inl (hw _ (List.mem_of_getElem? (i := 36) rfl))) (Or.inl (hw _ (List.mem_of_getElem? (i := 57) rfl))) (by decide) (t := (.array .int)) (t' := .int) (by decide) (by decide))))) (g := (mkF m 20 #[.val (.ref a1), .val (.int (0 : Int32))] [(.ref a1), (.int (0 : Int32))])) rfl rfl (hb hby d12_20)
  obtain ⟨T13, X13, e13, st13⟩ := getF X11 hx hZ hown (host := "") (Or.inl (hw _ (List.mem_of_getElem? (i := 35) rfl))) Via.refl e11 ((F_marks_a1.other W6 (Or.inr (slot_ne (Or.inl (hw _ (List.mem_of_getElem? (i := 36) rfl))) (Or.inl (hw _ (List.mem_of_getElem? (i := 57) rfl))) (by decide) (t := (.array .int)) (t' := .int) (by decide) (by decide))))) (g := (mkF m 51 #[.val (.ref a1), .val (.int (0 : Int32))] [(.ref a1), (.ref a1)])) rfl rfl (hb hby d12_51)
  obtain ⟨T15, h15, X15, e15, W15, st15⟩ := putF X13 hx hZ hown (host := "") (Or.inl (hw _ (List.mem_of_getElem? (i := 49) rfl))) Via.refl e13 ((F_held_a1.other W6 (Or.inr (slot_ne (Or.inl (hw _ (List.mem_of_getElem? (i := 50) rfl))) (Or.inl (hw _ (List.mem_of_getElem? (i := 57) rfl))) (by decide) (t := .int) (t' := .int) (by decide) (by decide))))) ((E_a1.wr W6)) (Or.inl (hw _ (List.mem_of_getElem? (i := 50) rfl))) (hw _ (List.mem_of_getElem? (i := 1) rfl)) (ty := .int) (by decide) rfl rfl (g := (mkF m 60 #[.val (.ref a1), .val (.int (0 : Int32))] [(.int (vf 2)), (.ref a1)])) rfl rfl (hb hby d12_60)
  have Fw15 := ((F_held_a1.other W6 (Or.inr (slot_ne (Or.inl (hw _ (List.mem_of_getElem? (i := 50) rfl))) (Or.inl (hw _ (List.mem_of_getElem? (i := 57) rfl))) (by decide) (t := .int) (t' := .int) (by decide) (by decide))))).same W15      -- the field now holds (.int (vf 2))
  have K15 : Keep h0 h15 [a1] := K6.wr W15 (Or.inl (List.mem_of_getElem? (i := 0) rfl))
  have N15 := Fr.snoc X15 N9 g_a1
  obtain ⟨fs, hr, hrun, hended, hW, hsame⟩ := X15.leave (v := none) (fun _ => rfl)
  refine ⟨_, _, pre0 _ ?_, hrun, hended, _, _, rfl, ?_, ⟨_, rfl⟩, hW, hsame.mono (by decide) (by decide)⟩
  -- 4. STEPS
  · show Steps p.tables e below (s₁.setTop (mkF m 0 #[.val (.ref a1), .val (.int (0 : Int32))] [])) _
    refine XS.aloadN X0.here hx rfl (hb hby d12_0) rfl rfl ?_
    show Steps p.tables e below (s₁.setTop (mkF m 1 #[.val (.ref a1), .val (.int (0 : Int32))] [(.ref a1)])) _
    refine XS.aloadN X0.here hx rfl (hb hby d12_1) rfl rfl ?_
    show Steps p.tables e below (s₁.setTop (mkF m 2 #[.val (.ref a1), .val (.int (0 : Int32))] [(.ref a1), (.ref a1)])) _
    refine st4 _ ?_
    show Steps p.tables e below (T4.setTop (mkF m 5 #[.val (.ref a1), .val (.int (0 : Int32))] [(.ref mk), (.ref a1)])) _
    refine XS.iconst X4.here hx rfl (hb hby d12_5) ?_
    show Steps p.tables e below (T4.setTop (mkF m 6 #[.val (.ref a1), .val (.int (0 : Int32))] [(.int (3 : Int32)), (.ref mk), (.ref a1)])) _
    refine XS.iloadN X4.here hx rfl (hb hby d12_6) rfl ?_
    show Steps p.tables e below (T4.setTop (mkF m 7 #[.val (.ref a1), .val (.int (0 : Int32))] [(.int (0 : Int32)), (.int (3 : Int32)), (.ref mk), (.ref a1)])) _
    refine XS.imul X4.here hx rfl (hb hby d12_7) rfl ?_
    show Steps p.tables e below (T4.setTop (mkF m 8 #[.val (.ref a1), .val (.int (0 : Int32))] [(.int ((3 : Int32) * (0 : Int32))), (.ref mk), (.ref a1)])) _
    refine X4.iaload hx (j := ((3 : Int32) * (0 : Int32))) (v := (.int (0 : Int32))) (by rw [e4]; exact Ar_w3.1) (State.isArrayOf_alike hZ.alike Ar_w3.2.1) Ar_w3.2.2 hin8 hat8 (g := (mkF m 8 #[.val (.ref a1), .val (.int (0 : Int32))] [(.int ((3 : Int32) * (0 : Int32))), (.ref mk), (.ref a1)])) rfl rfl (hb hby d12_8) _ ?_
    show Steps p.tables e below (T4.setTop (mkF m 9 #[.val (.ref a1), .val (.int (0 : Int32))] [(.int (0 : Int32)), (.ref a1)])) _
    refine st6 _ ?_
    show Steps p.tables e below (T6.setTop (mkF m 12 #[.val (.ref a1), .val (.int (0 : Int32))] [])) _
    refine XS.aloadN X6.here hx rfl (hb hby d12_12) rfl rfl ?_
    show Steps p.tables e below (T6.setTop (mkF m 13 #[.val (.ref a1), .val (.int (0 : Int32))] [(.ref a1)])) _
    refine st8 _ ?_
    show Steps p.tables e below (T8.setTop (mkF m 16 #[.val (.ref a1), .val (.int (0 : Int32))] [(.ref b)])) _
    refine st9.trans ?_
    show Steps p.tables e below (T9.setTop (mkF m 19 #[.val (.ref a1), .val (.int (0 : Int32))] [(.int (0 : Int32))])) _
    refine XS.aloadN X9.here hx rfl (hb hby d12_19) rfl rfl ?_
    show Steps p.tables e below (T9.setTop (mkF m 20 #[.val (.ref a1), .val (.int (0 : Int32))] [(.ref a1), (.int (0 : Int32))])) _
    refine st11 _ ?_
    show Steps p.tables e below (T11.setTop (mkF m 23 #[.val (.ref a1), .val (.int (0 : Int32))] [(.ref mk), (.int (0 : Int32))])) _
    refine XS.iconst X11.here hx rfl (hb hby d12_23) ?_
    show Steps p.tables e below (T11.setTop (mkF m 24 #[.val (.ref a1), .val (.int (0 : Int32))] [(.int (3 : Int32)), (.ref mk), (.int (0 : Int32))])) _
    refine XS.iloadN X11.here hx rfl (hb hby d12_24) rfl ?_
    show Steps p.tables e below (T11.setTop (mkF m 25 #[.val (.ref a1), .val (.int (0 : Int32))] [(.int (0 : Int32)), (.int (3 : Int32)), (.ref mk), (.int (0 : Int32))])) _
    refine XS.imul X11.here hx rfl (hb hby d12_25) rfl ?_
    show Steps p.tables e below (T11.setTop (mkF m 26 #[.val (.ref a1), .val (.int (0 : Int32))] [(.int ((3 : Int32) * (0 : Int32))), (.ref mk), (.int (0 : Int32))])) _
    refine XS.iconst X11.here hx rfl (hb hby d12_26) ?_
    show Steps p.tables e below (T11.setTop (mkF m 27 #[.val (.ref a1), .val (.int (0 : Int32))] [(.int (1 : Int32)), (.int ((3 : Int32) * (0 : Int32))), (.ref mk), (.int (0 : Int32))])) _
    refine XS.iadd X11.here hx rfl (hb hby d12_27) rfl ?_
    show Steps p.tables e below (T11.setTop (mkF m 28 #[.val (.ref a1), .val (.int (0 : Int32))] [(.int (((3 : Int32) * (0 : Int32)) + (1 : Int32))), (.ref mk), (.int (0 : Int32))])) _
    refine X11.iaload hx (j := (((3 : Int32) * (0 : Int32)) + (1 : Int32))) (v := (.int (0 : Int32))) (by rw [e11]; exact Ar_w10.1) (State.isArrayOf_alike hZ.alike Ar_w10.2.1) Ar_w10.2.2 hin28 hat28 (g := (mkF m 28 #[.val (.ref a1), .val (.int (0 : Int32))] [(.int (((3 : Int32) * (0 : Int32)) + (1 : Int32))), (.ref mk), (.int (0 : Int32))])) rfl rfl (hb hby d12_28) _ ?_
    show Steps p.tables e below (T11.setTop (mkF m 29 #[.val (.ref a1), .val (.int (0 : Int32))] [(.int (0 : Int32)), (.int (0 : Int32))])) _
    refine XS.icmpYes X11.here hx rfl (pc0 := 29) (pc' := 49) rfl (hb hby d12_29) rfl (teq (rfl : (0 : Int32) = (0 : Int32))).1 (by decide) (by decide) ?_
    show Steps p.tables e below (T11.setTop (mkF m 49 #[.val (.ref a1), .val (.int (0 : Int32))] [])) _
    refine XS.aloadN X11.here hx rfl (hb hby d12_49) rfl rfl ?_
    show Steps p.tables e below (T11.setTop (mkF m 50 #[.val (.ref a1), .val (.int (0 : Int32))] [(.ref a1)])) _
    refine XS.aloadN X11.here hx rfl (hb hby d12_50) rfl rfl ?_
    show Steps p.tables e below (T11.setTop (mkF m 51 #[.val (.ref a1), .val (.int (0 : Int32))] [(.ref a1), (.ref a1)])) _
    refine st13 _ ?_
    show Steps p.tables e below (T13.setTop (mkF m 54 #[.val (.ref a1), .val (.int (0 : Int32))] [(.ref mk), (.ref a1)])) _
    refine XS.iconst X13.here hx rfl (hb hby d12_54) ?_
    show Steps p.tables e below (T13.setTop (mkF m 55 #[.val (.ref a1), .val (.int (0 : Int32))] [(.int (3 : Int32)), (.ref mk), (.ref a1)])) _
    refine XS.iloadN X13.here hx rfl (hb hby d12_55) rfl ?_
    show Steps p.tables e below (T13.setTop (mkF m 56 #[.val (.ref a1), .val (.int (0 : Int32))] [(.int (0 : Int32)), (.int (3 : Int32)), (.ref mk), (.ref a1)])) _
    refine XS.imul X13.here hx rfl (hb hby d12_56) rfl ?_
    show Steps p.tables e below (T13.setTop (mkF m 57 #[.val (.ref a1), .val (.int (0 : Int32))] [(.int ((3 : Int32) * (0 : Int32))), (.ref mk), (.ref a1)])) _
    refine XS.iconst X13.here hx rfl (hb hby d12_57) ?_
    show Steps p.tables e below (T13.setTop (mkF m 58 #[.val (.ref a1), .val (.int (0 : Int32))] [(.int (2 : Int32)), (.int ((3 : Int32) * (0 : Int32))), (.ref mk), (.ref a1)])) _
    refine XS.iadd X13.here hx rfl (hb hby d12_58) rfl ?_
    show Steps p.tables e below (T13.setTop (mkF m 59 #[.val (.ref a1), .val (.int (0 : Int32))] [(.int (((3 : Int32) * (0 : Int32)) + (2 : Int32))), (.ref mk), (.ref a1)])) _
    refine X13.iaload hx (j := (((3 : Int32) * (0 : Int32)) + (2 : Int32))) (v := (.int (vf 2))) (by rw [e13]; exact Ar_w10.1) (State.isArrayOf_alike hZ.alike Ar_w10.2.1) Ar_w10.2.2 hin59 hat59 (g := (mkF m 59 #[.val (.ref a1), .val (.int (0 : Int32))] [(.int (((3 : Int32) * (0 : Int32)) + (2 : Int32))), (.ref mk), (.ref a1)])) rfl rfl (hb hby d12_59) _ ?_
    show Steps p.tables e below (T13.setTop (mkF m 60 #[.val (.ref a1), .val (.int (0 : Int32))] [(.int (vf 2)), (.ref a1)])) _
    refine st15 _ ?_
    show Steps p.tables e below (T15.setTop (mkF m 63 #[.val (.ref a1), .val (.int (0 : Int32))] [])) _
    exact X15.returnOut hx Bd.returns (hb hby d12_63) hr
  · show Q12_0 Z a1 b mk hl vf h0 n0 _ T15.heap _
    rw [e15]
    exact ⟨rfl, N15, K15, ⟨(E_a1.wr W6).wr W15, (F_count_a1.other W6 (Or.inr (slot_ne (Or.inl (hw _ (List.mem_of_getElem? (i := 43) rfl))) (Or.inl (hw _ (List.mem_of_getElem? (i := 57) rfl))) (by decide) (t := .int) (t' := .int) (by decide) (by decide))) |>.other W15 (Or.inr (slot_ne (Or.inl (hw _ (List.mem_of_getElem? (i := 43) rfl))) (Or.inl (hw _ (List.mem_of_getElem? (i := 50) rfl))) (by decide) (t := .int) (t' := .int) (by decide) (by decide)))), Fw15, Fw6.other W15 (Or.inr (slot_ne (Or.inl (hw _ (List.mem_of_getElem? (i := 57) rfl))) (Or.inl (hw _ (List.mem_of_getElem? (i := 50) rfl))) (by decide) (t := .int) (t' := .int) (by decide) (by decide))), (F_declarations_a1.other W6 (Or.inr (slot_ne (Or.inr (hw _ (List.mem_of_getElem? (i := 30) rfl))) (Or.inl (hw _ (List.mem_of_getElem? (i := 57) rfl))) (by decide) (t := (.object "java/lang/StringBuilder")) (t' := .int) (by decide) (by decide))) |>.other W15 (Or.inr (slot_ne (Or.inr (hw _ (List.mem_of_getElem? (i := 30) rfl))) (Or.inl (hw _ (List.mem_of_getElem? (i := 50) rfl))) (by decide) (t := (.object "java/lang/StringBuilder")) (t' := .int) (by decide) (by decide)))), (F_marks_a1.other W6 (Or.inr (slot_ne (Or.inl (hw _ (List.mem_of_getElem? (i := 36) rfl))) (Or.inl (hw _ (List.mem_of_getElem? (i := 57) rfl))) (by decide) (t := (.array .int)) (t' := .int) (by decide) (by decide))) |>.other W15 (Or.inr (slot_ne (Or.inl (hw _ (List.mem_of_getElem? (i := 36) rfl))) (Or.inl (hw _ (List.mem_of_getElem? (i := 50) rfl))) (by decide) (t := (.array .int)) (t' := .int) (by decide) (by decide)))), (E_b.wr W6).wr W15, F_b.other W6 (Or.inl ab.symm) |>.other W15 (Or.inl ab.symm)⟩, cl, Ar_w10.other W15 am.symm, S96, H6⟩
def Q12_1 (Z : State) (a1 b mk : Addr) (hl : Int32) (vf : Nat → Int32) (h0 : Heap) (n0 : Nat) (o : Option Value) (h : Heap) (L : List Loc) : Prop := o = none ∧ Fr n0 L ∧ Keep h0 h [a1] ∧ own_O Z h a1 b mk (1 : Int32) (vf 5) ∧ own_M Z h mk vf
set_option maxRecDepth 65536 in
set_option maxHeartbeats 40000000 in
theorem rm12_1 (l : Launch) (Z : State) (a0 : Array Value) (hw : ∀ d ∈ tables_1, d.before a0 Z = true) (ws : List Jvm.Cond) (a1 b mk : Addr) (hl : Int32) (vf : Nat → Int32) (h0 : Heap) (n0 : Nat) (Z0 : n0 ≤ h0.size) (g_a1 : n0 ≤ a1) (O_ : own_O Z h0 a1 b mk (1 : Int32) hl) (M_ : own_M Z h0 mk vf) (g_w4 : n0 ≤ mk) (am : a1 ≠ mk) (ab : a1 ≠ b) (bm : b ≠ mk) (v0 : vf 3 = 0) (v1 : vf 4 = 0) :
    MetFree l (⟨"org/codeweft/fhir/OpenTags", "truncate", "(I)V"⟩ : MethodName) (head1 (Jvm.Cond.code (⟨"org/codeweft/fhir/OpenTags", "truncate", "(I)V"⟩ : MethodName) prog_141_method_12_code 2 none :: ws) ({ frames := 2, cells := 0, slots := 0, locals := 24 } : Room)) (fun a U => a = #[(.ref a1), (.int (1 : Int32))] ∧ Z.Warmed39 U.vm ∧ U.heap = h0) (fun _ _ _ _ _ => True) (fun _ U o U' => ∃ v L, o = .returned v ∧ Q12_1 Z a1 b mk hl vf h0 n0 v U'.heap L ∧ FrameEnd U o U' L ({ frames := 2, cells := 0, slots := 0, locals := 24 } : Room).cells ({ frames := 2, cells := 0, slots := 0, locals := 24 } : Room).slots) := by
  refine MetFree.of_bodySF (plainFor_of_name pn_12) hisR ?_
  intro p e s m args below meth c s₁ Bd hml0 hP hK
  obtain ⟨rfl, hZ, hh⟩ := hP
  have hx := Bd.exec
  have hby := Bd.bytes
  have hml : c.maxLocals = 2 := hml0
  have hown : s.vm.findClass "org/codeweft/fhir/OpenTags" = some m.cls := findClass_of_methodNamed Bd.named
  have hnm := (name_of_methodNamed Bd.named Bd.method).1
  have X0 : Stand p l e ({ frames := 2, cells := 0, slots := 0, locals := 24 } : Room) s m #[(.ref a1), (.int (1 : Int32))] below meth c s₁ [] 0 0 := Stand.of_body Bd
  have e0 : s₁.heap = h0 := by rw [← hh, Bd.state]; rfl
  have N0 := Fr.nil n0
  have pre0 : ∀ t, Steps p.tables e below (s₁.setTop (mkF m 0 #[.val (.ref a1), .val (.int (1 : Int32))] [])) t → Steps p.tables e below (s₁.setTop (entryFrame m #[(.ref a1), (.int (1 : Int32))] 2)) t := fun t k => castTop (ef_12 m a1 (1 : Int32)) k
  -- 3. LAWS
  obtain ⟨E_a1, F_count_a1, F_held_a1, F_namesEnd_a1, F_declarations_a1, F_marks_a1, E_b, F_b⟩ := O_
  obtain ⟨cl, Ar_w3, S96, H6⟩ := M_
  have I0 : ((3 : Int32) * (1 : Int32)).toNatClampNeg = 3 := by decide
  have I1 : (((3 : Int32) * (1 : Int32)) + (1 : Int32)).toNatClampNeg = 4 := by decide
  have I2 : (((3 : Int32) * (1 : Int32)) + (2 : Int32)).toNatClampNeg = 5 := by decide
  have hin8 : ¬ (((3 : Int32) * (1 : Int32)) < 0 ∨ cl.slots.size ≤ (((3 : Int32) * (1 : Int32))).toNatClampNeg) := by rw [S96, I0]; decide
  have hat8 : cl.slots[(((3 : Int32) * (1 : Int32))).toNatClampNeg]? = some (.int (0 : Int32)) := by rw [I0, H6 _ (by decide), v0]
  have hin28 : ¬ ((((3 : Int32) * (1 : Int32)) + (1 : Int32)) < 0 ∨ cl.slots.size ≤ ((((3 : Int32) * (1 : Int32)) + (1 : Int32))).toNatClampNeg) := by rw [S96, I1]; decide
  have hat28 : cl.slots[((((3 : Int32) * (1 : Int32)) + (1 : Int32))).toNatClampNeg]? = some (.int (0 : Int32)) := by rw [I1, H6 _ (by decide), v1]
  have hin59 : ¬ ((((3 : Int32) * (1 : Int32)) + (2 : Int32)) < 0 ∨ cl.slots.size ≤ ((((3 : Int32) * (1 : Int32)) + (2 : Int32))).toNatClampNeg) := by rw [S96, I2]; decide
  have hat59 : cl.slots[((((3 : Int32) * (1 : Int32)) + (2 : Int32))).toNatClampNeg]? = some (.int (vf 5)) := by rw [I2]; exact H6 _ (by decide)
  obtain ⟨T4, X4, e4, st4⟩ := getF X0 hx hZ hown (host := "") (Or.inl (hw _ (List.mem_of_getElem? (i := 35) rfl))) Via.refl e0 F_marks_a1 (g := (mkF m 2 #[.val (.ref a1), .val (.int (1 : Int32))] [(.ref a1), (.ref a1)])) rfl rfl (hb hby d12_2)
  obtain ⟨T6, h6, X6, e6, W6, st6⟩ := putF X4 hx hZ hown (host := "") (Or.inl (hw _ (List.mem_of_getElem? (i := 56) rfl))) Via.refl e4 F_namesEnd_a1 E_a1 (Or.inl (hw _ (List.mem_of_getElem? (i := 57) rfl))) (hw _ (List.mem_of_getElem? (i := 1) rfl)) (ty := .int) (by decide) rfl rfl (g := (mkF m 9 #[.val (.ref a1), .val (.int (1 : Int32))] [(.int (0 : Int32)), (.ref a1)])) rfl rfl (hb hby d12_9)
  have Fw6 := F_namesEnd_a1.same W6      -- the field now holds (.int (0 : Int32))
  have K6 : Keep h0 h6 [a1] := (Keep.refl h0 [a1]).wr W6 (Or.inl (List.mem_of_getElem? (i := 0) rfl))
  have N6 := Fr.snoc X6 N0 g_a1
  have Ar_w10 : Arr Z h6 mk cl .int := Ar_w3.other W6 am.symm
  obtain ⟨T8, X8, e8, st8⟩ := getF X6 hx hZ hown (host := "") (Or.inl (hw _ (List.mem_of_getElem? (i := 29) rfl))) Via.refl e6 (F_declarations_a1.other W6 (Or.inr (slot_ne (Or.inr (hw _ (List.mem_of_getElem? (i := 30) rfl))) (Or.inl (hw _ (List.mem_of_getElem? (i := 57) rfl))) (by decide) (t := (.object "java/lang/StringBuilder")) (t' := .int) (by decide) (by decide)))) (g := (mkF m 13 #[.val (.ref a1), .val (.int (1 : Int32))] [(.ref a1)])) rfl rfl (hb hby d12_13)
  -- pc 16: java/lang/StringBuilder.length by the contract of the body that the receiver's class selects, rm8
  obtain ⟨cq9, kq9, q9a, q9b, q9c⟩ := isOf hZ e8 (E_b.wr W6)
  obtain ⟨_, _, ⟨T9, L9, k9, n9⟩, -, X9, ⟨Lc9, hQ9, l9, y9, z9⟩, st9⟩ := X8.virtualBack hx (y := (⟨"java/lang/StringBuilder", "length", "()I"⟩ : MethodName)) (z := (⟨"java/lang/StringBuilder", "length", "()I"⟩ : MethodName)) hown (mvT hZ (hw _ (List.mem_of_getElem? (i := 58) rfl))) (mvT hZ (hw _ (List.mem_of_getElem? (i := 59) rfl))) (notFace_of_selects (args := #[]) (mvT hZ (hw _ (List.mem_of_getElem? (i := 61) rfl)))) (mvT hZ (hw _ (List.mem_of_getElem? (i := 61) rfl))) (mvT hZ (hw _ (List.mem_of_getElem? (i := 60) rfl))) (by decide) (backOf (W := 0) (rm8 l Z a0 hw [] b h6 n0 (Nat.le_trans Z0 K6.1) (F_b.other W6 (Or.inl ab.symm))) hZ (hw _ (List.mem_of_getElem? (i := 62) rfl)) (hw _ (List.mem_of_getElem? (i := 11) rfl)) (by decide) (by decide)) q9a q9c (g := (mkF m 16 #[.val (.ref a1), .val (.int (1 : Int32))] [(.ref b)])) rfl (by rw [hml]; rfl) (Steps.refl _) (argsL := []) (rest := []) (lenOf pd_12_2 rfl) rfl (by show 2 * 0 + _ ≤ _; exact Nat.le_of_eq rfl) (hb hby d12_16) (fun _ _ => ⟨rfl, e8, (by decide : 0 + 0 ≤ _), (by decide : 0 + 0 ≤ _)⟩)
  dsimp only [Pt.U, Pt.locs, Pt.cells, Pt.slots] at X9 l9 y9 z9 st9 hQ9
  subst l9 y9 z9
  obtain ⟨rfl, N9q, e9⟩ := hQ9      -- what it returned, that it wrote nothing old, and the rest of your Q8
  have N9 := Fr.app N6 N9q
  obtain ⟨T11, X11, e11, st11⟩ := getF X9 hx hZ hown (host := "") (Or.inl (hw _ (List.mem_of_getElem? (i := 35) rfl))) Via.refl e9 ((F_marks_a1.other W6 (Or.inr (slot_ne (Or.inl (hw _ (List.mem_of_getElem? (i := 36) rfl))) (Or.inl (hw _ (List.mem_of_getElem? (i := 57) rfl))) (by decide) (t := (.array .int)) (t' := .int) (by decide) (by decide))))) (g := (mkF m 20 #[.val (.ref a1), .val (.int (1 : Int32))] [(.ref a1), (.int (0 : Int32))])) rfl rfl (hb hby d12_20)
  obtain ⟨T13, X13, e13, st13⟩ := getF X11 hx hZ hown (host := "") (Or.inl (hw _ (List.mem_of_getElem? (i := 35) rfl))) Via.refl e11 ((F_marks_a1.other W6 (Or.inr (slot_ne (Or.inl (hw _ (List.mem_of_getElem? (i := 36) rfl))) (Or.inl (hw _ (List.mem_of_getElem? (i := 57) rfl))) (by decide) (t := (.array .int)) (t' := .int) (by decide) (by decide))))) (g := (mkF m 51 #[.val (.ref a1), .val (.int (1 : Int32))] [(.ref a1), (.ref a1)])) rfl rfl (hb hby d12_51)
  obtain ⟨T15, h15, X15, e15, W15, st15⟩ := putF X13 hx hZ hown (host := "") (Or.inl (hw _ (List.mem_of_getElem? (i := 49) rfl))) Via.refl e13 ((F_held_a1.other W6 (Or.inr (slot_ne (Or.inl (hw _ (List.mem_of_getElem? (i := 50) rfl))) (Or.inl (hw _ (List.mem_of_getElem? (i := 57) rfl))) (by decide) (t := .int) (t' := .int) (by decide) (by decide))))) ((E_a1.wr W6)) (Or.inl (hw _ (List.mem_of_getElem? (i := 50) rfl))) (hw _ (List.mem_of_getElem? (i := 1) rfl)) (ty := .int) (by decide) rfl rfl (g := (mkF m 60 #[.val (.ref a1), .val (.int (1 : Int32))] [(.int (vf 5)), (.ref a1)])) rfl rfl (hb hby d12_60)
  have Fw15 := ((F_held_a1.other W6 (Or.inr (slot_ne (Or.inl (hw _ (List.mem_of_getElem? (i := 50) rfl))) (Or.inl (hw _ (List.mem_of_getElem? (i := 57) rfl))) (by decide) (t := .int) (t' := .int) (by decide) (by decide))))).same W15      -- the field now holds (.int (vf 5))
  have K15 : Keep h0 h15 [a1] := K6.wr W15 (Or.inl (List.mem_of_getElem? (i := 0) rfl))
  have N15 := Fr.snoc X15 N9 g_a1
  obtain ⟨fs, hr, hrun, hended, hW, hsame⟩ := X15.leave (v := none) (fun _ => rfl)
  refine ⟨_, _, pre0 _ ?_, hrun, hended, _, _, rfl, ?_, ⟨_, rfl⟩, hW, hsame.mono (by decide) (by decide)⟩
  -- 4. STEPS
  · show Steps p.tables e below (s₁.setTop (mkF m 0 #[.val (.ref a1), .val (.int (1 : Int32))] [])) _
    refine XS.aloadN X0.here hx rfl (hb hby d12_0) rfl rfl ?_
    show Steps p.tables e below (s₁.setTop (mkF m 1 #[.val (.ref a1), .val (.int (1 : Int32))] [(.ref a1)])) _
    refine XS.aloadN X0.here hx rfl (hb hby d12_1) rfl rfl ?_
    show Steps p.tables e below (s₁.setTop (mkF m 2 #[.val (.ref a1), .val (.int (1 : Int32))] [(.ref a1), (.ref a1)])) _
    refine st4 _ ?_
    show Steps p.tables e below (T4.setTop (mkF m 5 #[.val (.ref a1), .val (.int (1 : Int32))] [(.ref mk), (.ref a1)])) _
    refine XS.iconst X4.here hx rfl (hb hby d12_5) ?_
    show Steps p.tables e below (T4.setTop (mkF m 6 #[.val (.ref a1), .val (.int (1 : Int32))] [(.int (3 : Int32)), (.ref mk), (.ref a1)])) _
    refine XS.iloadN X4.here hx rfl (hb hby d12_6) rfl ?_
    show Steps p.tables e below (T4.setTop (mkF m 7 #[.val (.ref a1), .val (.int (1 : Int32))] [(.int (1 : Int32)), (.int (3 : Int32)), (.ref mk), (.ref a1)])) _
    refine XS.imul X4.here hx rfl (hb hby d12_7) rfl ?_
    show Steps p.tables e below (T4.setTop (mkF m 8 #[.val (.ref a1), .val (.int (1 : Int32))] [(.int ((3 : Int32) * (1 : Int32))), (.ref mk), (.ref a1)])) _
    refine X4.iaload hx (j := ((3 : Int32) * (1 : Int32))) (v := (.int (0 : Int32))) (by rw [e4]; exact Ar_w3.1) (State.isArrayOf_alike hZ.alike Ar_w3.2.1) Ar_w3.2.2 hin8 hat8 (g := (mkF m 8 #[.val (.ref a1), .val (.int (1 : Int32))] [(.int ((3 : Int32) * (1 : Int32))), (.ref mk), (.ref a1)])) rfl rfl (hb hby d12_8) _ ?_
    show Steps p.tables e below (T4.setTop (mkF m 9 #[.val (.ref a1), .val (.int (1 : Int32))] [(.int (0 : Int32)), (.ref a1)])) _
    refine st6 _ ?_
    show Steps p.tables e below (T6.setTop (mkF m 12 #[.val (.ref a1), .val (.int (1 : Int32))] [])) _
    refine XS.aloadN X6.here hx rfl (hb hby d12_12) rfl rfl ?_
    show Steps p.tables e below (T6.setTop (mkF m 13 #[.val (.ref a1), .val (.int (1 : Int32))] [(.ref a1)])) _
    refine st8 _ ?_
    show Steps p.tables e below (T8.setTop (mkF m 16 #[.val (.ref a1), .val (.int (1 : Int32))] [(.ref b)])) _
    refine st9.trans ?_
    show Steps p.tables e below (T9.setTop (mkF m 19 #[.val (.ref a1), .val (.int (1 : Int32))] [(.int (0 : Int32))])) _
    refine XS.aloadN X9.here hx rfl (hb hby d12_19) rfl rfl ?_
    show Steps p.tables e below (T9.setTop (mkF m 20 #[.val (.ref a1), .val (.int (1 : Int32))] [(.ref a1), (.int (0 : Int32))])) _
    refine st11 _ ?_
    show Steps p.tables e below (T11.setTop (mkF m 23 #[.val (.ref a1), .val (.int (1 : Int32))] [(.ref mk), (.int (0 : Int32))])) _
    refine XS.iconst X11.here hx rfl (hb hby d12_23) ?_
    show Steps p.tables e below (T11.setTop (mkF m 24 #[.val (.ref a1), .val (.int (1 : Int32))] [(.int (3 : Int32)), (.ref mk), (.int (0 : Int32))])) _
    refine XS.iloadN X11.here hx rfl (hb hby d12_24) rfl ?_
    show Steps p.tables e below (T11.setTop (mkF m 25 #[.val (.ref a1), .val (.int (1 : Int32))] [(.int (1 : Int32)), (.int (3 : Int32)), (.ref mk), (.int (0 : Int32))])) _
    refine XS.imul X11.here hx rfl (hb hby d12_25) rfl ?_
    show Steps p.tables e below (T11.setTop (mkF m 26 #[.val (.ref a1), .val (.int (1 : Int32))] [(.int ((3 : Int32) * (1 : Int32))), (.ref mk), (.int (0 : Int32))])) _
    refine XS.iconst X11.here hx rfl (hb hby d12_26) ?_
    show Steps p.tables e below (T11.setTop (mkF m 27 #[.val (.ref a1), .val (.int (1 : Int32))] [(.int (1 : Int32)), (.int ((3 : Int32) * (1 : Int32))), (.ref mk), (.int (0 : Int32))])) _
    refine XS.iadd X11.here hx rfl (hb hby d12_27) rfl ?_
    show Steps p.tables e below (T11.setTop (mkF m 28 #[.val (.ref a1), .val (.int (1 : Int32))] [(.int (((3 : Int32) * (1 : Int32)) + (1 : Int32))), (.ref mk), (.int (0 : Int32))])) _
    refine X11.iaload hx (j := (((3 : Int32) * (1 : Int32)) + (1 : Int32))) (v := (.int (0 : Int32))) (by rw [e11]; exact Ar_w10.1) (State.isArrayOf_alike hZ.alike Ar_w10.2.1) Ar_w10.2.2 hin28 hat28 (g := (mkF m 28 #[.val (.ref a1), .val (.int (1 : Int32))] [(.int (((3 : Int32) * (1 : Int32)) + (1 : Int32))), (.ref mk), (.int (0 : Int32))])) rfl rfl (hb hby d12_28) _ ?_
    show Steps p.tables e below (T11.setTop (mkF m 29 #[.val (.ref a1), .val (.int (1 : Int32))] [(.int (0 : Int32)), (.int (0 : Int32))])) _
    refine XS.icmpYes X11.here hx rfl (pc0 := 29) (pc' := 49) rfl (hb hby d12_29) rfl (teq (rfl : (0 : Int32) = (0 : Int32))).1 (by decide) (by decide) ?_
    show Steps p.tables e below (T11.setTop (mkF m 49 #[.val (.ref a1), .val (.int (1 : Int32))] [])) _
    refine XS.aloadN X11.here hx rfl (hb hby d12_49) rfl rfl ?_
    show Steps p.tables e below (T11.setTop (mkF m 50 #[.val (.ref a1), .val (.int (1 : Int32))] [(.ref a1)])) _
    refine XS.aloadN X11.here hx rfl (hb hby d12_50) rfl rfl ?_
    show Steps p.tables e below (T11.setTop (mkF m 51 #[.val (.ref a1), .val (.int (1 : Int32))] [(.ref a1), (.ref a1)])) _
    refine st13 _ ?_
    show Steps p.tables e below (T13.setTop (mkF m 54 #[.val (.ref a1), .val (.int (1 : Int32))] [(.ref mk), (.ref a1)])) _
    refine XS.iconst X13.here hx rfl (hb hby d12_54) ?_
    show Steps p.tables e below (T13.setTop (mkF m 55 #[.val (.ref a1), .val (.int (1 : Int32))] [(.int (3 : Int32)), (.ref mk), (.ref a1)])) _
    refine XS.iloadN X13.here hx rfl (hb hby d12_55) rfl ?_
    show Steps p.tables e below (T13.setTop (mkF m 56 #[.val (.ref a1), .val (.int (1 : Int32))] [(.int (1 : Int32)), (.int (3 : Int32)), (.ref mk), (.ref a1)])) _
    refine XS.imul X13.here hx rfl (hb hby d12_56) rfl ?_
    show Steps p.tables e below (T13.setTop (mkF m 57 #[.val (.ref a1), .val (.int (1 : Int32))] [(.int ((3 : Int32) * (1 : Int32))), (.ref mk), (.ref a1)])) _
    refine XS.iconst X13.here hx rfl (hb hby d12_57) ?_
    show Steps p.tables e below (T13.setTop (mkF m 58 #[.val (.ref a1), .val (.int (1 : Int32))] [(.int (2 : Int32)), (.int ((3 : Int32) * (1 : Int32))), (.ref mk), (.ref a1)])) _
    refine XS.iadd X13.here hx rfl (hb hby d12_58) rfl ?_
    show Steps p.tables e below (T13.setTop (mkF m 59 #[.val (.ref a1), .val (.int (1 : Int32))] [(.int (((3 : Int32) * (1 : Int32)) + (2 : Int32))), (.ref mk), (.ref a1)])) _
    refine X13.iaload hx (j := (((3 : Int32) * (1 : Int32)) + (2 : Int32))) (v := (.int (vf 5))) (by rw [e13]; exact Ar_w10.1) (State.isArrayOf_alike hZ.alike Ar_w10.2.1) Ar_w10.2.2 hin59 hat59 (g := (mkF m 59 #[.val (.ref a1), .val (.int (1 : Int32))] [(.int (((3 : Int32) * (1 : Int32)) + (2 : Int32))), (.ref mk), (.ref a1)])) rfl rfl (hb hby d12_59) _ ?_
    show Steps p.tables e below (T13.setTop (mkF m 60 #[.val (.ref a1), .val (.int (1 : Int32))] [(.int (vf 5)), (.ref a1)])) _
    refine st15 _ ?_
    show Steps p.tables e below (T15.setTop (mkF m 63 #[.val (.ref a1), .val (.int (1 : Int32))] [])) _
    exact X15.returnOut hx Bd.returns (hb hby d12_63) hr
  · show Q12_1 Z a1 b mk hl vf h0 n0 _ T15.heap _
    rw [e15]
    exact ⟨rfl, N15, K15, ⟨(E_a1.wr W6).wr W15, (F_count_a1.other W6 (Or.inr (slot_ne (Or.inl (hw _ (List.mem_of_getElem? (i := 43) rfl))) (Or.inl (hw _ (List.mem_of_getElem? (i := 57) rfl))) (by decide) (t := .int) (t' := .int) (by decide) (by decide))) |>.other W15 (Or.inr (slot_ne (Or.inl (hw _ (List.mem_of_getElem? (i := 43) rfl))) (Or.inl (hw _ (List.mem_of_getElem? (i := 50) rfl))) (by decide) (t := .int) (t' := .int) (by decide) (by decide)))), Fw15, Fw6.other W15 (Or.inr (slot_ne (Or.inl (hw _ (List.mem_of_getElem? (i := 57) rfl))) (Or.inl (hw _ (List.mem_of_getElem? (i := 50) rfl))) (by decide) (t := .int) (t' := .int) (by decide) (by decide))), (F_declarations_a1.other W6 (Or.inr (slot_ne (Or.inr (hw _ (List.mem_of_getElem? (i := 30) rfl))) (Or.inl (hw _ (List.mem_of_getElem? (i := 57) rfl))) (by decide) (t := (.object "java/lang/StringBuilder")) (t' := .int) (by decide) (by decide))) |>.other W15 (Or.inr (slot_ne (Or.inr (hw _ (List.mem_of_getElem? (i := 30) rfl))) (Or.inl (hw _ (List.mem_of_getElem? (i := 50) rfl))) (by decide) (t := (.object "java/lang/StringBuilder")) (t' := .int) (by decide) (by decide)))), (F_marks_a1.other W6 (Or.inr (slot_ne (Or.inl (hw _ (List.mem_of_getElem? (i := 36) rfl))) (Or.inl (hw _ (List.mem_of_getElem? (i := 57) rfl))) (by decide) (t := (.array .int)) (t' := .int) (by decide) (by decide))) |>.other W15 (Or.inr (slot_ne (Or.inl (hw _ (List.mem_of_getElem? (i := 36) rfl))) (Or.inl (hw _ (List.mem_of_getElem? (i := 50) rfl))) (by decide) (t := (.array .int)) (t' := .int) (by decide) (by decide)))), (E_b.wr W6).wr W15, F_b.other W6 (Or.inl ab.symm) |>.other W15 (Or.inl ab.symm)⟩, cl, Ar_w10.other W15 am.symm, S96, H6⟩
theorem d11_0 : decode prog_141_method_9_code 0 = .ok (.aload_n 0, 1) := by decide +kernel
theorem d11_1 : decode prog_141_method_9_code 1 = .ok (.getfield 24, 3) := by decide +kernel
theorem d11_4 : decode prog_141_method_9_code 4 = .ok (.ifCond .le 21, 3) := by decide +kernel
theorem d11_7 : decode prog_141_method_9_code 7 = .ok (.aload_n 0, 1) := by decide +kernel
theorem d11_8 : decode prog_141_method_9_code 8 = .ok (.dup, 1) := by decide +kernel
theorem d11_9 : decode prog_141_method_9_code 9 = .ok (.getfield 24, 3) := by decide +kernel
theorem d11_12 : decode prog_141_method_9_code 12 = .ok (.iconst 1, 1) := by decide +kernel
theorem d11_13 : decode prog_141_method_9_code 13 = .ok (.isub, 1) := by decide +kernel
theorem d11_14 : decode prog_141_method_9_code 14 = .ok (.putfield 24, 3) := by decide +kernel
theorem d11_17 : decode prog_141_method_9_code 17 = .ok (.aload_n 0, 1) := by decide +kernel
theorem d11_18 : decode prog_141_method_9_code 18 = .ok (.aload_n 0, 1) := by decide +kernel
theorem d11_19 : decode prog_141_method_9_code 19 = .ok (.getfield 24, 3) := by decide +kernel
theorem d11_22 : decode prog_141_method_9_code 22 = .ok (.invokevirtual 60, 3) := by decide +kernel
theorem d11_25 : decode prog_141_method_9_code 25 = .ok (.return_, 1) := by decide +kernel
theorem pn_11 : plainName "org/codeweft/fhir/OpenTags" = true := by first | (simp [plainName, overriddenIn]; done) | decide +kernel
theorem pd_11_1 : parseMethodDescriptor "(I)V" = some ⟨[.int], none⟩ := by decide +kernel
theorem ef_11 (m : MethodId) (x0 : Addr) : entryFrame m #[(.ref x0)] 1 = mkF m 0 #[.val (.ref x0)] [] := by first | (simp [entryFrame, mkF, argsToLocals, Value.category]; done) | rfl
def Q11_0 (Z : State) (a1 b mk : Addr) (hl : Int32) (vf : Nat → Int32) (h0 : Heap) (n0 : Nat) (o : Option Value) (h : Heap) (L : List Loc) : Prop := o = none ∧ Fr n0 L ∧ Keep h0 h [a1] ∧ own_O Z h a1 b mk (0 : Int32) (vf 2) ∧ own_M Z h mk vf
set_option maxRecDepth 65536 in
set_option maxHeartbeats 40000000 in
theorem rm11_0 (l : Launch) (Z : State) (a0 : Array Value) (hw : ∀ d ∈ tables_1, d.before a0 Z = true) (ws : List Jvm.Cond) (a1 b mk : Addr) (hl : Int32) (vf : Nat → Int32) (h0 : Heap) (n0 : Nat) (Z0 : n0 ≤ h0.size) (g_a1 : n0 ≤ a1) (O_ : own_O Z h0 a1 b mk (1 : Int32) hl) (M_ : own_M Z h0 mk vf) (g_w4 : n0 ≤ mk) (am : a1 ≠ mk) (ab : a1 ≠ b) (bm : b ≠ mk) (v0 : vf 0 = 0) (v1 : vf 1 = 0) :
    MetFree l (⟨"org/codeweft/fhir/OpenTags", "close", "()V"⟩ : MethodName) (head1 (Jvm.Cond.code (⟨"org/codeweft/fhir/OpenTags", "close", "()V"⟩ : MethodName) prog_141_method_9_code 1 none :: ws) ({ frames := 3, cells := 0, slots := 0, locals := 37 } : Room)) (fun a U => a = #[(.ref a1)] ∧ Z.Warmed39 U.vm ∧ U.heap = h0) (fun _ _ _ _ _ => True) (fun _ U o U' => ∃ v L, o = .returned v ∧ Q11_0 Z a1 b mk hl vf h0 n0 v U'.heap L ∧ FrameEnd U o U' L ({ frames := 3, cells := 0, slots := 0, locals := 37 } : Room).cells ({ frames := 3, cells := 0, slots := 0, locals := 37 } : Room).slots) := by
  refine MetFree.of_bodySF (plainFor_of_name pn_11) hisR ?_
  intro p e s m args below meth c s₁ Bd hml0 hP hK
  obtain ⟨rfl, hZ, hh⟩ := hP
  have hx := Bd.exec
  have hby := Bd.bytes
  have hml : c.maxLocals = 1 := hml0
  have hown : s.vm.findClass "org/codeweft/fhir/OpenTags" = some m.cls := findClass_of_methodNamed Bd.named
  have hnm := (name_of_methodNamed Bd.named Bd.method).1
  have X0 : Stand p l e ({ frames := 3, cells := 0, slots := 0, locals := 37 } : Room) s m #[(.ref a1)] below meth c s₁ [] 0 0 := Stand.of_body Bd
  have e0 : s₁.heap = h0 := by rw [← hh, Bd.state]; rfl
  have N0 := Fr.nil n0
  have pre0 : ∀ t, Steps p.tables e below (s₁.setTop (mkF m 0 #[.val (.ref a1)] [])) t → Steps p.tables e below (s₁.setTop (entryFrame m #[(.ref a1)] 1)) t := fun t k => castTop (ef_11 m a1) k
  -- 3. LAWS
  obtain ⟨E_a1, F_count_a1, F_held_a1, F_namesEnd_a1, F_declarations_a1, F_marks_a1, E_b, F_b⟩ := O_
  obtain ⟨cl, Ar_w4, S96, H6⟩ := M_
  have hc4 : (0 : Int32) < (1 : Int32) := by decide
  obtain ⟨T3, X3, e3, st3⟩ := getF X0 hx hZ hown (host := "") (Or.inl (hw _ (List.mem_of_getElem? (i := 42) rfl))) Via.refl e0 F_count_a1 (g := (mkF m 1 #[.val (.ref a1)] [(.ref a1)])) rfl rfl (hb hby d11_1)
  obtain ⟨T4, X4, e4, st4⟩ := getF X3 hx hZ hown (host := "") (Or.inl (hw _ (List.mem_of_getElem? (i := 42) rfl))) Via.refl e3 F_count_a1 (g := (mkF m 9 #[.val (.ref a1)] [(.ref a1), (.ref a1)])) rfl rfl (hb hby d11_9)
  obtain ⟨T5, h5, X5, e5, W5, st5⟩ := putF X4 hx hZ hown (host := "") (Or.inl (hw _ (List.mem_of_getElem? (i := 42) rfl))) Via.refl e4 F_count_a1 E_a1 (Or.inl (hw _ (List.mem_of_getElem? (i := 43) rfl))) (hw _ (List.mem_of_getElem? (i := 1) rfl)) (ty := .int) (by decide) rfl rfl (g := (mkF m 14 #[.val (.ref a1)] [(.int (0 : Int32)), (.ref a1)])) rfl rfl (hb hby d11_14)
  have Fw5 := F_count_a1.same W5      -- the field now holds (.int (0 : Int32))
  have K5 : Keep h0 h5 [a1] := (Keep.refl h0 [a1]).wr W5 (Or.inl (List.mem_of_getElem? (i := 0) rfl))
  have N5 := Fr.snoc X5 N0 g_a1
  have O5 : own_O Z h5 a1 b mk (0 : Int32) hl := ⟨E_a1.wr W5, Fw5, (F_held_a1.other W5 (Or.inr (slot_ne (Or.inl (hw _ (List.mem_of_getElem? (i := 50) rfl))) (Or.inl (hw _ (List.mem_of_getElem? (i := 43) rfl))) (by decide) (t := .int) (t' := .int) (by decide) (by decide)))), (F_namesEnd_a1.other W5 (Or.inr (slot_ne (Or.inl (hw _ (List.mem_of_getElem? (i := 57) rfl))) (Or.inl (hw _ (List.mem_of_getElem? (i := 43) rfl))) (by decide) (t := .int) (t' := .int) (by decide) (by decide)))), (F_declarations_a1.other W5 (Or.inr (slot_ne (Or.inr (hw _ (List.mem_of_getElem? (i := 30) rfl))) (Or.inl (hw _ (List.mem_of_getElem? (i := 43) rfl))) (by decide) (t := (.object "java/lang/StringBuilder")) (t' := .int) (by decide) (by decide)))), (F_marks_a1.other W5 (Or.inr (slot_ne (Or.inl (hw _ (List.mem_of_getElem? (i := 36) rfl))) (Or.inl (hw _ (List.mem_of_getElem? (i := 43) rfl))) (by decide) (t := (.array .int)) (t' := .int) (by decide) (by decide)))), E_b.wr W5, F_b.other W5 (Or.inl ab.symm)⟩
  have M5 : own_M Z h5 mk vf := ⟨cl, Ar_w4.other W5 am.symm, S96, H6⟩
  obtain ⟨T6, X6, e6, st6⟩ := getF X5 hx hZ hown (host := "") (Or.inl (hw _ (List.mem_of_getElem? (i := 42) rfl))) Via.refl e5 Fw5 (g := (mkF m 19 #[.val (.ref a1)] [(.ref a1), (.ref a1)])) rfl rfl (hb hby d11_19)
  -- pc 22: a private method: rm12
  obtain ⟨cq7, q7, q7'⟩ := (E_a1.wr W5).cell
  obtain ⟨_, _, ⟨T7, L7, k7, n7⟩, -, X7, ⟨Lc7, hQ7, l7, y7, z7⟩, st7⟩ := X6.privateBack hx (y := (⟨"org/codeweft/fhir/OpenTags", "truncate", "(I)V"⟩ : MethodName)) hown (mvT hZ (hw _ (List.mem_of_getElem? (i := 80) rfl))) (mvT hZ (hw _ (List.mem_of_getElem? (i := 81) rfl))) (mvT hZ (own_selects (by decide) (hw _ (List.mem_of_getElem? (i := 1) rfl)) (hw _ (List.mem_of_getElem? (i := 82) rfl)) (hw _ (List.mem_of_getElem? (i := 81) rfl)))) (Cond.privateMethod_at (mvP hZ (hw _ (List.mem_of_getElem? (i := 82) rfl)) (args := #[]))) (mvT hZ (hw _ (List.mem_of_getElem? (i := 83) rfl))) (by decide) (backOf (W := 0) (rm12_0 l Z a0 hw [] a1 b mk hl vf h5 n0 (Nat.le_trans Z0 K5.1) g_a1 O5 M5 g_w4 am ab bm v0 v1) hZ (hw _ (List.mem_of_getElem? (i := 83) rfl)) (hw _ (List.mem_of_getElem? (i := 2) rfl)) (by decide) (by decide)) (g := (mkF m 22 #[.val (.ref a1)] [(.int (0 : Int32)), (.ref a1)])) rfl (by rw [hml]; rfl) (Steps.refl _) (a := a1) (by rw [e6]; exact q7) q7' (argsL := [(.int (0 : Int32))]) (rest := []) (lenOf pd_11_1 rfl) rfl (by show 2 * 0 + _ ≤ _; exact Nat.le_of_eq rfl) (hb hby d11_22) (fun _ _ => ⟨rfl, e6, (by decide : 0 + 0 ≤ _), (by decide : 0 + 0 ≤ _)⟩)
  dsimp only [Pt.U, Pt.locs, Pt.cells, Pt.slots] at X7 l7 y7 z7 st7 hQ7
  subst l7 y7 z7
  obtain ⟨rfl, N7q, K7, O7, M7⟩ := hQ7      -- what it returned, that it wrote nothing old, and the rest of your Q12
  have N7 := Fr.app N5 N7q
  obtain ⟨fs, hr, hrun, hended, hW, hsame⟩ := X7.leave (v := none) (fun _ => rfl)
  refine ⟨_, _, pre0 _ ?_, hrun, hended, _, _, rfl, ?_, ⟨_, rfl⟩, hW, hsame.mono (by decide) (by decide)⟩
  -- 4. STEPS
  · show Steps p.tables e below (s₁.setTop (mkF m 0 #[.val (.ref a1)] [])) _
    refine XS.aloadN X0.here hx rfl (hb hby d11_0) rfl rfl ?_
    show Steps p.tables e below (s₁.setTop (mkF m 1 #[.val (.ref a1)] [(.ref a1)])) _
    refine st3 _ ?_
    show Steps p.tables e below (T3.setTop (mkF m 4 #[.val (.ref a1)] [(.int (1 : Int32))])) _
    refine XS.ifNo X3.here hx rfl (hb hby d11_4) rfl ((if0 _ _).trans (tlt hc4).2.2.2) ?_
    show Steps p.tables e below (T3.setTop (mkF m 7 #[.val (.ref a1)] [])) _
    refine XS.aloadN X3.here hx rfl (hb hby d11_7) rfl rfl ?_
    show Steps p.tables e below (T3.setTop (mkF m 8 #[.val (.ref a1)] [(.ref a1)])) _
    refine XS.dup X3.here hx rfl (hb hby d11_8) rfl rfl ?_
    show Steps p.tables e below (T3.setTop (mkF m 9 #[.val (.ref a1)] [(.ref a1), (.ref a1)])) _
    refine st4 _ ?_
    show Steps p.tables e below (T4.setTop (mkF m 12 #[.val (.ref a1)] [(.int (1 : Int32)), (.ref a1)])) _
    refine XS.iconst X4.here hx rfl (hb hby d11_12) ?_
    show Steps p.tables e below (T4.setTop (mkF m 13 #[.val (.ref a1)] [(.int (1 : Int32)), (.int (1 : Int32)), (.ref a1)])) _
    refine XS.isub X4.here hx rfl (hb hby d11_13) rfl ?_
    show Steps p.tables e below (T4.setTop (mkF m 14 #[.val (.ref a1)] [(.int (0 : Int32)), (.ref a1)])) _
    refine st5 _ ?_
    show Steps p.tables e below (T5.setTop (mkF m 17 #[.val (.ref a1)] [])) _
    refine XS.aloadN X5.here hx rfl (hb hby d11_17) rfl rfl ?_
    show Steps p.tables e below (T5.setTop (mkF m 18 #[.val (.ref a1)] [(.ref a1)])) _
    refine XS.aloadN X5.here hx rfl (hb hby d11_18) rfl rfl ?_
    show Steps p.tables e below (T5.setTop (mkF m 19 #[.val (.ref a1)] [(.ref a1), (.ref a1)])) _
    refine st6 _ ?_
    show Steps p.tables e below (T6.setTop (mkF m 22 #[.val (.ref a1)] [(.int (0 : Int32)), (.ref a1)])) _
    refine st7.trans ?_
    show Steps p.tables e below (T7.setTop (mkF m 25 #[.val (.ref a1)] [])) _
    exact X7.returnOut hx Bd.returns (hb hby d11_25) hr
  · show Q11_0 Z a1 b mk hl vf h0 n0 _ T7.heap _
    exact ⟨rfl, N7, K5.trans K7 (fun x hx => Or.inl hx), O7, M7⟩
def Q11_1 (Z : State) (a1 b mk : Addr) (hl : Int32) (vf : Nat → Int32) (h0 : Heap) (n0 : Nat) (o : Option Value) (h : Heap) (L : List Loc) : Prop := o = none ∧ Fr n0 L ∧ Keep h0 h [a1] ∧ own_O Z h a1 b mk (1 : Int32) (vf 5) ∧ own_M Z h mk vf
set_option maxRecDepth 65536 in
set_option maxHeartbeats 40000000 in
theorem rm11_1 (l : Launch) (Z : State) (a0 : Array Value) (hw : ∀ d ∈ tables_1, d.before a0 Z = true) (ws : List Jvm.Cond) (a1 b mk : Addr) (hl : Int32) (vf : Nat → Int32) (h0 : Heap) (n0 : Nat) (Z0 : n0 ≤ h0.size) (g_a1 : n0 ≤ a1) (O_ : own_O Z h0 a1 b mk (2 : Int32) hl) (M_ : own_M Z h0 mk vf) (g_w4 : n0 ≤ mk) (am : a1 ≠ mk) (ab : a1 ≠ b) (bm : b ≠ mk) (v0 : vf 3 = 0) (v1 : vf 4 = 0) :
    MetFree l (⟨"org/codeweft/fhir/OpenTags", "close", "()V"⟩ : MethodName) (head1 (Jvm.Cond.code (⟨"org/codeweft/fhir/OpenTags", "close", "()V"⟩ : MethodName) prog_141_method_9_code 1 none :: ws) ({ frames := 3, cells := 0, slots := 0, locals := 37 } : Room)) (fun a U => a = #[(.ref a1)] ∧ Z.Warmed39 U.vm ∧ U.heap = h0) (fun _ _ _ _ _ => True) (fun _ U o U' => ∃ v L, o = .returned v ∧ Q11_1 Z a1 b mk hl vf h0 n0 v U'.heap L ∧ FrameEnd U o U' L ({ frames := 3, cells := 0, slots := 0, locals := 37 } : Room).cells ({ frames := 3, cells := 0, slots := 0, locals := 37 } : Room).slots) := by
  refine MetFree.of_bodySF (plainFor_of_name pn_11) hisR ?_
  intro p e s m args below meth c s₁ Bd hml0 hP hK
  obtain ⟨rfl, hZ, hh⟩ := hP
  have hx := Bd.exec
  have hby := Bd.bytes
  have hml : c.maxLocals = 1 := hml0
  have hown : s.vm.findClass "org/codeweft/fhir/OpenTags" = some m.cls := findClass_of_methodNamed Bd.named
  have hnm := (name_of_methodNamed Bd.named Bd.method).1
  have X0 : Stand p l e ({ frames := 3, cells := 0, slots := 0, locals := 37 } : Room) s m #[(.ref a1)] below meth c s₁ [] 0 0 := Stand.of_body Bd
  have e0 : s₁.heap = h0 := by rw [← hh, Bd.state]; rfl
  have N0 := Fr.nil n0
  have pre0 : ∀ t, Steps p.tables e below (s₁.setTop (mkF m 0 #[.val (.ref a1)] [])) t → Steps p.tables e below (s₁.setTop (entryFrame m #[(.ref a1)] 1)) t := fun t k => castTop (ef_11 m a1) k
  -- 3. LAWS
  obtain ⟨E_a1, F_count_a1, F_held_a1, F_namesEnd_a1, F_declarations_a1, F_marks_a1, E_b, F_b⟩ := O_
  obtain ⟨cl, Ar_w4, S96, H6⟩ := M_
  have hc4 : (0 : Int32) < (2 : Int32) := by decide
  obtain ⟨T3, X3, e3, st3⟩ := getF X0 hx hZ hown (host := "") (Or.inl (hw _ (List.mem_of_getElem? (i := 42) rfl))) Via.refl e0 F_count_a1 (g := (mkF m 1 #[.val (.ref a1)] [(.ref a1)])) rfl rfl (hb hby d11_1)
  obtain ⟨T4, X4, e4, st4⟩ := getF X3 hx hZ hown (host := "") (Or.inl (hw _ (List.mem_of_getElem? (i := 42) rfl))) Via.refl e3 F_count_a1 (g := (mkF m 9 #[.val (.ref a1)] [(.ref a1), (.ref a1)])) rfl rfl (hb hby d11_9)
  obtain ⟨T5, h5, X5, e5, W5, st5⟩ := putF X4 hx hZ hown (host := "") (Or.inl (hw _ (List.mem_of_getElem? (i := 42) rfl))) Via.refl e4 F_count_a1 E_a1 (Or.inl (hw _ (List.mem_of_getElem? (i := 43) rfl))) (hw _ (List.mem_of_getElem? (i := 1) rfl)) (ty := .int) (by decide) rfl rfl (g := (mkF m 14 #[.val (.ref a1)] [(.int (1 : Int32)), (.ref a1)])) rfl rfl (hb hby d11_14)
  have Fw5 := F_count_a1.same W5      -- the field now holds (.int (1 : Int32))
  have K5 : Keep h0 h5 [a1] := (Keep.refl h0 [a1]).wr W5 (Or.inl (List.mem_of_getElem? (i := 0) rfl))
  have N5 := Fr.snoc X5 N0 g_a1
  have O5 : own_O Z h5 a1 b mk (1 : Int32) hl := ⟨E_a1.wr W5, Fw5, (F_held_a1.other W5 (Or.inr (slot_ne (Or.inl (hw _ (List.mem_of_getElem? (i := 50) rfl))) (Or.inl (hw _ (List.mem_of_getElem? (i := 43) rfl))) (by decide) (t := .int) (t' := .int) (by decide) (by decide)))), (F_namesEnd_a1.other W5 (Or.inr (slot_ne (Or.inl (hw _ (List.mem_of_getElem? (i := 57) rfl))) (Or.inl (hw _ (List.mem_of_getElem? (i := 43) rfl))) (by decide) (t := .int) (t' := .int) (by decide) (by decide)))), (F_declarations_a1.other W5 (Or.inr (slot_ne (Or.inr (hw _ (List.mem_of_getElem? (i := 30) rfl))) (Or.inl (hw _ (List.mem_of_getElem? (i := 43) rfl))) (by decide) (t := (.object "java/lang/StringBuilder")) (t' := .int) (by decide) (by decide)))), (F_marks_a1.other W5 (Or.inr (slot_ne (Or.inl (hw _ (List.mem_of_getElem? (i := 36) rfl))) (Or.inl (hw _ (List.mem_of_getElem? (i := 43) rfl))) (by decide) (t := (.array .int)) (t' := .int) (by decide) (by decide)))), E_b.wr W5, F_b.other W5 (Or.inl ab.symm)⟩
  have M5 : own_M Z h5 mk vf := ⟨cl, Ar_w4.other W5 am.symm, S96, H6⟩
  obtain ⟨T6, X6, e6, st6⟩ := getF X5 hx hZ hown (host := "") (Or.inl (hw _ (List.mem_of_getElem? (i := 42) rfl))) Via.refl e5 Fw5 (g := (mkF m 19 #[.val (.ref a1)] [(.ref a1), (.ref a1)])) rfl rfl (hb hby d11_19)
  -- pc 22: a private method: rm12
  obtain ⟨cq7, q7, q7'⟩ := (E_a1.wr W5).cell
  obtain ⟨_, _, ⟨T7, L7, k7, n7⟩, -, X7, ⟨Lc7, hQ7, l7, y7, z7⟩, st7⟩ := X6.privateBack hx (y := (⟨"org/codeweft/fhir/OpenTags", "truncate", "(I)V"⟩ : MethodName)) hown (mvT hZ (hw _ (List.mem_of_getElem? (i := 80) rfl))) (mvT hZ (hw _ (List.mem_of_getElem? (i := 81) rfl))) (mvT hZ (own_selects (by decide) (hw _ (List.mem_of_getElem? (i := 1) rfl)) (hw _ (List.mem_of_getElem? (i := 82) rfl)) (hw _ (List.mem_of_getElem? (i := 81) rfl)))) (Cond.privateMethod_at (mvP hZ (hw _ (List.mem_of_getElem? (i := 82) rfl)) (args := #[]))) (mvT hZ (hw _ (List.mem_of_getElem? (i := 83) rfl))) (by decide) (backOf (W := 0) (rm12_1 l Z a0 hw [] a1 b mk hl vf h5 n0 (Nat.le_trans Z0 K5.1) g_a1 O5 M5 g_w4 am ab bm v0 v1) hZ (hw _ (List.mem_of_getElem? (i := 83) rfl)) (hw _ (List.mem_of_getElem? (i := 2) rfl)) (by decide) (by decide)) (g := (mkF m 22 #[.val (.ref a1)] [(.int (1 : Int32)), (.ref a1)])) rfl (by rw [hml]; rfl) (Steps.refl _) (a := a1) (by rw [e6]; exact q7) q7' (argsL := [(.int (1 : Int32))]) (rest := []) (lenOf pd_11_1 rfl) rfl (by show 2 * 0 + _ ≤ _; exact Nat.le_of_eq rfl) (hb hby d11_22) (fun _ _ => ⟨rfl, e6, (by decide : 0 + 0 ≤ _), (by decide : 0 + 0 ≤ _)⟩)
  dsimp only [Pt.U, Pt.locs, Pt.cells, Pt.slots] at X7 l7 y7 z7 st7 hQ7
  subst l7 y7 z7
  obtain ⟨rfl, N7q, K7, O7, M7⟩ := hQ7      -- what it returned, that it wrote nothing old, and the rest of your Q12
  have N7 := Fr.app N5 N7q
  obtain ⟨fs, hr, hrun, hended, hW, hsame⟩ := X7.leave (v := none) (fun _ => rfl)
  refine ⟨_, _, pre0 _ ?_, hrun, hended, _, _, rfl, ?_, ⟨_, rfl⟩, hW, hsame.mono (by decide) (by decide)⟩
  -- 4. STEPS
  · show Steps p.tables e below (s₁.setTop (mkF m 0 #[.val (.ref a1)] [])) _
    refine XS.aloadN X0.here hx rfl (hb hby d11_0) rfl rfl ?_
    show Steps p.tables e below (s₁.setTop (mkF m 1 #[.val (.ref a1)] [(.ref a1)])) _
    refine st3 _ ?_
    show Steps p.tables e below (T3.setTop (mkF m 4 #[.val (.ref a1)] [(.int (2 : Int32))])) _
    refine XS.ifNo X3.here hx rfl (hb hby d11_4) rfl ((if0 _ _).trans (tlt hc4).2.2.2) ?_
    show Steps p.tables e below (T3.setTop (mkF m 7 #[.val (.ref a1)] [])) _
    refine XS.aloadN X3.here hx rfl (hb hby d11_7) rfl rfl ?_
    show Steps p.tables e below (T3.setTop (mkF m 8 #[.val (.ref a1)] [(.ref a1)])) _
    refine XS.dup X3.here hx rfl (hb hby d11_8) rfl rfl ?_
    show Steps p.tables e below (T3.setTop (mkF m 9 #[.val (.ref a1)] [(.ref a1), (.ref a1)])) _
    refine st4 _ ?_
    show Steps p.tables e below (T4.setTop (mkF m 12 #[.val (.ref a1)] [(.int (2 : Int32)), (.ref a1)])) _
    refine XS.iconst X4.here hx rfl (hb hby d11_12) ?_
    show Steps p.tables e below (T4.setTop (mkF m 13 #[.val (.ref a1)] [(.int (1 : Int32)), (.int (2 : Int32)), (.ref a1)])) _
    refine XS.isub X4.here hx rfl (hb hby d11_13) rfl ?_
    show Steps p.tables e below (T4.setTop (mkF m 14 #[.val (.ref a1)] [(.int (1 : Int32)), (.ref a1)])) _
    refine st5 _ ?_
    show Steps p.tables e below (T5.setTop (mkF m 17 #[.val (.ref a1)] [])) _
    refine XS.aloadN X5.here hx rfl (hb hby d11_17) rfl rfl ?_
    show Steps p.tables e below (T5.setTop (mkF m 18 #[.val (.ref a1)] [(.ref a1)])) _
    refine XS.aloadN X5.here hx rfl (hb hby d11_18) rfl rfl ?_
    show Steps p.tables e below (T5.setTop (mkF m 19 #[.val (.ref a1)] [(.ref a1), (.ref a1)])) _
    refine st6 _ ?_
    show Steps p.tables e below (T6.setTop (mkF m 22 #[.val (.ref a1)] [(.int (1 : Int32)), (.ref a1)])) _
    refine st7.trans ?_
    show Steps p.tables e below (T7.setTop (mkF m 25 #[.val (.ref a1)] [])) _
    exact X7.returnOut hx Bd.returns (hb hby d11_25) hr
  · show Q11_1 Z a1 b mk hl vf h0 n0 _ T7.heap _
    exact ⟨rfl, N7, K5.trans K7 (fun x hx => Or.inl hx), O7, M7⟩
theorem pn_0 : plainName "org/codeweft/fhir/OpenTagsOpenPinLaw" = true := by first | (simp [plainName, overriddenIn]; done) | decide +kernel
theorem pd_0_0 : parseMethodDescriptor "()V" = some ⟨[], none⟩ := by decide +kernel
theorem pd_0_2 : parseMethodDescriptor "()I" = some ⟨[], some .int⟩ := by decide +kernel
theorem pd_0_3 : parseMethodDescriptor "(J)V" = some ⟨[.long], none⟩ := by decide +kernel
theorem ef_0 (m : MethodId) (x0 : Int64) (x1 : Int64) (x2 : Int32) : entryFrame m #[(.long x0), (.long x1), (.int x2)] maxLocals = mkF m 0 #[.val (.long x0), .second, .val (.long x1), .second, .val (.int x2), .unset, .unset, .unset, .unset, .unset] [] := by first | (simp [entryFrame, mkF, argsToLocals, Value.category, maxLocals]; done) | rfl
def Q0_z (Z : State) (h0 : Heap) (n0 : Nat) (v : Option Value) (h : Heap) (L : List Loc) : Prop := v = some (.int (1 : Int32)) ∧ Fr n0 L
set_option maxRecDepth 65536 in
set_option maxHeartbeats 40000000 in
theorem rm0_z (l : Launch) (Z : State) (a0 : Array Value) (hw : ∀ d ∈ tables_1, d.before a0 Z = true) (ws : List Jvm.Cond) (q1 : Int64) (q2 : Int64) (p3 : Int32) (w4 : Int32) (h0 : Heap) (n0 : Nat) (Z0 : n0 ≤ h0.size) (S_C : Sta Z h0 "java/lang/String" "COMPACT_STRINGS" "Z" (.int w4)) (hcs : ¬ (w4 = (0 : Int32))) (hc13 : (p3 &&& (1 : Int32)) = (0 : Int32)) (hc104 : ¬ ((1 : Int32) = (0 : Int32))) (hc146 : ¬ ((1 : Int32) = (0 : Int32))) :
    MetFree l x (head1 (Jvm.Cond.code x code maxLocals ret :: ws) room_1) (fun a U => a = #[(.long q1), (.long q2), (.int p3)] ∧ Z.Warmed39 U.vm ∧ U.heap = h0) (fun _ _ _ _ _ => True) (fun _ U o U' => ∃ v L, o = .returned v ∧ Q0_z Z h0 n0 v U'.heap L ∧ FrameEnd U o U' L room_1.cells room_1.slots) := by
  refine MetFree.of_bodySF (plainFor_of_name pn_0) hisR ?_
  intro p e s m args below meth c s₁ Bd hml0 hP hK
  obtain ⟨rfl, hZ, hh⟩ := hP
  have hx := Bd.exec
  have hby := Bd.bytes
  have hml : c.maxLocals = 10 := hml0
  have hown : s.vm.findClass "org/codeweft/fhir/OpenTagsOpenPinLaw" = some m.cls := findClass_of_methodNamed Bd.named
  have hnm := (name_of_methodNamed Bd.named Bd.method).1
  have X0 : Stand p l e room_1 s m #[(.long q1), (.long q2), (.int p3)] below meth c s₁ [] 0 0 := Stand.of_body Bd
  have e0 : s₁.heap = h0 := by rw [← hh, Bd.state]; rfl
  have N0 := Fr.nil n0
  have pre0 : ∀ t, Steps p.tables e below (s₁.setTop (mkF m 0 #[.val (.long q1), .second, .val (.long q2), .second, .val (.int p3), .unset, .unset, .unset, .unset, .unset] [])) t → Steps p.tables e below (s₁.setTop (entryFrame m #[(.long q1), (.long q2), (.int p3)] maxLocals)) t := fun t k => castTop (ef_0 m q1 q2 p3) k
  -- 3. LAWS
  obtain ⟨T4, h4, X4, e4, E4, A4, D4, -, st4⟩ := newO X0 hx hZ hown (hw _ (List.mem_of_getElem? (i := 0) rfl)) (hw _ (List.mem_of_getElem? (i := 1) rfl)) (hw _ (List.mem_of_getElem? (i := 2) rfl)) e0 (g := (mkF m 0 #[.val (.long q1), .second, .val (.long q2), .second, .val (.int p3), .unset, .unset, .unset, .unset, .unset] [])) rfl (hb hby at_0) (by decide) (by decide)
  obtain ⟨b4, g4⟩ : ∃ z, z = h0.size := ⟨_, rfl⟩      -- the fresh object's address
  rw [← g4] at A4 D4 st4      -- A4 : Exa Z h4 b4 "org/codeweft/fhir/OpenTags"; E4 : Ext h0 h4 (carries every older fact: .ext E4)
  have F_declarations_b4 : Fld Z h4 b4 "org/codeweft/fhir/OpenTags" "declarations" "Ljava/lang/StringBuilder;" .null := D4 (Or.inr (hw _ (List.mem_of_getElem? (i := 30) rfl))) (ty := (.object "java/lang/StringBuilder")) (by decide)
  have F_names_b4 : Fld Z h4 b4 "org/codeweft/fhir/OpenTags" "names" "[C" .null := D4 (Or.inl (hw _ (List.mem_of_getElem? (i := 33) rfl))) (ty := (.array .char)) (by decide)
  have F_marks_b4 : Fld Z h4 b4 "org/codeweft/fhir/OpenTags" "marks" "[I" .null := D4 (Or.inl (hw _ (List.mem_of_getElem? (i := 36) rfl))) (ty := (.array .int)) (by decide)
  have F_count_b4 : Fld Z h4 b4 "org/codeweft/fhir/OpenTags" "count" "I" (.int (0 : Int32)) := D4 (Or.inl (hw _ (List.mem_of_getElem? (i := 43) rfl))) (ty := .int) (by decide)
  have F_held_b4 : Fld Z h4 b4 "org/codeweft/fhir/OpenTags" "held" "I" (.int (0 : Int32)) := D4 (Or.inl (hw _ (List.mem_of_getElem? (i := 50) rfl))) (ty := .int) (by decide)
  have F_namesEnd_b4 : Fld Z h4 b4 "org/codeweft/fhir/OpenTags" "namesEnd" "I" (.int (0 : Int32)) := D4 (Or.inl (hw _ (List.mem_of_getElem? (i := 57) rfl))) (ty := .int) (by decide)
  have E_b4 := A4
  have g_b4 : n0 ≤ b4 := Nat.le_trans Z0 (Nat.le_of_eq g4.symm)
  have sz_b4 : h0.size ≤ b4 := (Nat.le_trans (Keep.refl h0 []).1 (Nat.le_of_eq g4.symm))
  have K4 : Keep h0 h4 [] := (Keep.refl h0 []).ext E4
  -- pc 4: the constructor of org/codeweft/fhir/OpenTags by its contract rm1
  obtain ⟨_, _, ⟨T5, L5, k5, n5⟩, -, X5, ⟨Lc5, hQ5, l5, y5, z5⟩, st5⟩ := X4.specialBack hx (y := (⟨"org/codeweft/fhir/OpenTags", "<init>", "()V"⟩ : MethodName)) rfl hown (mvT hZ (hw _ (List.mem_of_getElem? (i := 3) rfl))) (mvT hZ (hw _ (List.mem_of_getElem? (i := 4) rfl))) (mvT hZ (hw _ (List.mem_of_getElem? (i := 5) rfl))) (by decide) (backOf (W := 1) (rm1 l Z a0 hw [] b4 .null .null .null w4 h4 n0 (Nat.le_trans Z0 E4.1) (S_C.ext E4) hcs F_count_b4 F_held_b4 F_namesEnd_b4 E_b4 F_declarations_b4 g_b4 F_names_b4 F_marks_b4) hZ (hw _ (List.mem_of_getElem? (i := 5) rfl)) (hw _ (List.mem_of_getElem? (i := 2) rfl)) (by decide) (by decide)) (g := (mkF m 4 #[.val (.long q1), .second, .val (.long q2), .second, .val (.int p3), .unset, .unset, .unset, .unset, .unset] [(.ref b4), (.ref b4)])) rfl (by rw [hml]; rfl) (Steps.refl _) (a := b4) (argsL := []) (rest := [(.ref b4)]) (lenOf pd_0_0 rfl) rfl (by show 2 * 0 + _ ≤ _; exact Nat.le_of_eq rfl) (hb hby at_4) (fun _ _ => ⟨rfl, e4, (by decide : 1 + 4 ≤ _), (by decide : 6 + 1140 ≤ _)⟩)
  dsimp only [Pt.U, Pt.locs, Pt.cells, Pt.slots] at X5 l5 y5 z5 st5 hQ5
  subst l5 y5 z5
  obtain ⟨rfl, N5q, K5, b, mk, O5, M5, gm, am, ab, bm⟩ := hQ5
  have Z5 : n0 ≤ T5.heap.size := Nat.le_trans (Nat.le_trans Z0 E4.1) K5.1
  have N5 := Fr.app N0 N5q
  -- pc 41: org/codeweft/fhir/OpenTags.count by the contract of the body that the receiver's class selects, rm5
  obtain ⟨cq6, kq6, q6a, q6b, q6c⟩ := isOf hZ rfl O5.1
  obtain ⟨_, _, ⟨T6, L6, k6, n6⟩, -, X6, ⟨Lc6, hQ6, l6, y6, z6⟩, st6⟩ := X5.virtualBack hx (y := (⟨"org/codeweft/fhir/OpenTags", "count", "()I"⟩ : MethodName)) (z := (⟨"org/codeweft/fhir/OpenTags", "count", "()I"⟩ : MethodName)) hown (mvT hZ (hw _ (List.mem_of_getElem? (i := 37) rfl))) (mvT hZ (hw _ (List.mem_of_getElem? (i := 38) rfl))) (notFace_of_selects (args := #[]) (mvT hZ (hw _ (List.mem_of_getElem? (i := 40) rfl)))) (mvT hZ (hw _ (List.mem_of_getElem? (i := 40) rfl))) (mvT hZ (hw _ (List.mem_of_getElem? (i := 39) rfl))) (by decide) (backOf (W := 0) (rm5 l Z a0 hw [] b4 (0 : Int32) T5.heap n0 Z5 O5.2.1) hZ (hw _ (List.mem_of_getElem? (i := 41) rfl)) (hw _ (List.mem_of_getElem? (i := 2) rfl)) (by decide) (by decide)) q6a q6c (g := (mkF m 41 #[.val (.long q1), .second, .val (.long q2), .second, .val (.int p3), .val (.ref b4), .val (.int (0 : Int32)), .unset, .unset, .unset] [(.ref b4)])) rfl (by rw [hml]; rfl) (Steps.refl _) (argsL := []) (rest := []) (lenOf pd_0_2 rfl) rfl (by show 2 * 0 + _ ≤ _; exact Nat.le_of_eq rfl) (hb hby at_41) (fun _ _ => ⟨rfl, rfl, (by decide : 5 + 0 ≤ _), (by decide : 1146 + 0 ≤ _)⟩)
  dsimp only [Pt.U, Pt.locs, Pt.cells, Pt.slots] at X6 l6 y6 z6 st6 hQ6
  subst l6 y6 z6
  obtain ⟨rfl, N6q, e6q⟩ := hQ6
  have O6 : own_O Z T6.heap b4 b mk (0 : Int32) (0 : Int32) := by rw [e6q]; exact O5
  have M6 : own_M Z T6.heap mk (fun _ => 0) := by rw [e6q]; exact M5
  have Z6 : n0 ≤ T6.heap.size := by rw [e6q]; exact Z5
  have N6 := Fr.app N5 N6q
  -- pc 48: org/codeweft/fhir/OpenTags.held by the contract of the body that the receiver's class selects, rm6
  obtain ⟨cq7, kq7, q7a, q7b, q7c⟩ := isOf hZ rfl O6.1
  obtain ⟨_, _, ⟨T7, L7, k7, n7⟩, -, X7, ⟨Lc7, hQ7, l7, y7, z7⟩, st7⟩ := X6.virtualBack hx (y := (⟨"org/codeweft/fhir/OpenTags", "held", "()I"⟩ : MethodName)) (z := (⟨"org/codeweft/fhir/OpenTags", "held", "()I"⟩ : MethodName)) hown (mvT hZ (hw _ (List.mem_of_getElem? (i := 44) rfl))) (mvT hZ (hw _ (List.mem_of_getElem? (i := 45) rfl))) (notFace_of_selects (args := #[]) (mvT hZ (hw _ (List.mem_of_getElem? (i := 47) rfl)))) (mvT hZ (hw _ (List.mem_of_getElem? (i := 47) rfl))) (mvT hZ (hw _ (List.mem_of_getElem? (i := 46) rfl))) (by decide) (backOf (W := 0) (rm6 l Z a0 hw [] b4 (0 : Int32) T6.heap n0 Z6 O6.2.2.1) hZ (hw _ (List.mem_of_getElem? (i := 48) rfl)) (hw _ (List.mem_of_getElem? (i := 2) rfl)) (by decide) (by decide)) q7a q7c (g := (mkF m 48 #[.val (.long q1), .second, .val (.long q2), .second, .val (.int p3), .val (.ref b4), .val (.int (0 : Int32)), .val (.int (0 : Int32)), .unset, .unset] [(.ref b4)])) rfl (by rw [hml]; rfl) (Steps.refl _) (argsL := []) (rest := []) (lenOf pd_0_2 rfl) rfl (by show 2 * 0 + _ ≤ _; exact Nat.le_of_eq rfl) (hb hby at_48) (fun _ _ => ⟨rfl, rfl, (by decide : 5 + 0 ≤ _), (by decide : 1146 + 0 ≤ _)⟩)
  dsimp only [Pt.U, Pt.locs, Pt.cells, Pt.slots] at X7 l7 y7 z7 st7 hQ7
  subst l7 y7 z7
  obtain ⟨rfl, N7q, e7q⟩ := hQ7
  have O7 : own_O Z T7.heap b4 b mk (0 : Int32) (0 : Int32) := by rw [e7q]; exact O6
  have M7 : own_M Z T7.heap mk (fun _ => 0) := by rw [e7q]; exact M6
  have Z7 : n0 ≤ T7.heap.size := by rw [e7q]; exact Z6
  have N7 := Fr.app N6 N7q
  -- pc 93: org/codeweft/fhir/OpenTags.begin by the contract of the body that the receiver's class selects, rm7
  obtain ⟨cq8, kq8, q8a, q8b, q8c⟩ := isOf hZ rfl O7.1
  obtain ⟨_, _, ⟨T8, L8, k8, n8⟩, -, X8, ⟨Lc8, hQ8, l8, y8, z8⟩, st8⟩ := X7.virtualBack hx (y := (⟨"org/codeweft/fhir/OpenTags", "begin", "()V"⟩ : MethodName)) (z := (⟨"org/codeweft/fhir/OpenTags", "begin", "()V"⟩ : MethodName)) hown (mvT hZ (hw _ (List.mem_of_getElem? (i := 51) rfl))) (mvT hZ (hw _ (List.mem_of_getElem? (i := 52) rfl))) (notFace_of_selects (args := #[]) (mvT hZ (hw _ (List.mem_of_getElem? (i := 54) rfl)))) (mvT hZ (hw _ (List.mem_of_getElem? (i := 54) rfl))) (mvT hZ (hw _ (List.mem_of_getElem? (i := 53) rfl))) (by decide) (backOf (W := 0) (rm7_0 l Z a0 hw [] b4 b mk (0 : Int32) (fun _ => 0) T7.heap n0 Z7 O7 M7 gm am ab bm) hZ (hw _ (List.mem_of_getElem? (i := 55) rfl)) (hw _ (List.mem_of_getElem? (i := 2) rfl)) (by decide) (by decide)) q8a q8c (g := (mkF m 93 #[.val (.long q1), .second, .val (.long q2), .second, .val (.int p3), .val (.ref b4), .val (.int (0 : Int32)), .val (.int (0 : Int32)), .val (.int (0 : Int32)), .val (.int (1 : Int32))] [(.ref b4)])) rfl (by rw [hml]; rfl) (Steps.refl _) (argsL := []) (rest := []) (lenOf pd_0_0 rfl) rfl (by show 2 * 0 + _ ≤ _; exact Nat.le_of_eq rfl) (hb hby at_93) (fun _ _ => ⟨rfl, rfl, (by decide : 5 + 0 ≤ _), (by decide : 1146 + 0 ≤ _)⟩)
  dsimp only [Pt.U, Pt.locs, Pt.cells, Pt.slots] at X8 l8 y8 z8 st8 hQ8
  subst l8 y8 z8
  obtain ⟨rfl, N8q, K8, O8, M8⟩ := hQ8
  have Z8 : n0 ≤ T8.heap.size := Nat.le_trans Z7 K8.1
  have N8 := Fr.app N7 N8q
  -- pc 99: org/codeweft/fhir/OpenTags.open by the contract of the body that the receiver's class selects, rm10
  obtain ⟨cq9, kq9, q9a, q9b, q9c⟩ := isOf hZ rfl O8.1
  obtain ⟨_, _, ⟨T9, L9, k9, n9⟩, -, X9, ⟨Lc9, hQ9, l9, y9, z9⟩, st9⟩ := X8.virtualBack hx (y := (⟨"org/codeweft/fhir/OpenTags", "open", "(J)V"⟩ : MethodName)) (z := (⟨"org/codeweft/fhir/OpenTags", "open", "(J)V"⟩ : MethodName)) hown (mvT hZ (hw _ (List.mem_of_getElem? (i := 70) rfl))) (mvT hZ (hw _ (List.mem_of_getElem? (i := 71) rfl))) (notFace_of_selects (args := #[]) (mvT hZ (hw _ (List.mem_of_getElem? (i := 73) rfl)))) (mvT hZ (hw _ (List.mem_of_getElem? (i := 73) rfl))) (mvT hZ (hw _ (List.mem_of_getElem? (i := 72) rfl))) (by decide) (backOf (W := 0) (rm10_0 l Z a0 hw [] b4 b mk q2 (0 : Int32) (own_u 0 (0 : Int32) (fun _ => 0)) T8.heap n0 Z8 g_b4 O8 M8 gm am ab bm) hZ (hw _ (List.mem_of_getElem? (i := 74) rfl)) (hw _ (List.mem_of_getElem? (i := 2) rfl)) (by decide) (by decide)) q9a q9c (g := (mkF m 99 #[.val (.long q1), .second, .val (.long q2), .second, .val (.int p3), .val (.ref b4), .val (.int (0 : Int32)), .val (.int (0 : Int32)), .val (.int (0 : Int32)), .val (.int (1 : Int32))] [(.long q2), (.ref b4)])) rfl (by rw [hml]; rfl) (Steps.refl _) (argsL := [(.long q2)]) (rest := []) (lenOf pd_0_3 rfl) rfl (by show 2 * 0 + _ ≤ _; exact Nat.le_of_eq rfl) (hb hby at_99) (fun _ _ => ⟨rfl, rfl, (by decide : 5 + 0 ≤ _), (by decide : 1146 + 0 ≤ _)⟩)
  dsimp only [Pt.U, Pt.locs, Pt.cells, Pt.slots] at X9 l9 y9 z9 st9 hQ9
  subst l9 y9 z9
  obtain ⟨rfl, N9q, K9, O9, M9⟩ := hQ9
  have Z9 : n0 ≤ T9.heap.size := Nat.le_trans Z8 K9.1
  have N9 := Fr.app N8 N9q
  -- pc 109: org/codeweft/fhir/OpenTags.count by the contract of the body that the receiver's class selects, rm5
  obtain ⟨cq10, kq10, q10a, q10b, q10c⟩ := isOf hZ rfl O9.1
  obtain ⟨_, _, ⟨T10, L10, k10, n10⟩, -, X10, ⟨Lc10, hQ10, l10, y10, z10⟩, st10⟩ := X9.virtualBack hx (y := (⟨"org/codeweft/fhir/OpenTags", "count", "()I"⟩ : MethodName)) (z := (⟨"org/codeweft/fhir/OpenTags", "count", "()I"⟩ : MethodName)) hown (mvT hZ (hw _ (List.mem_of_getElem? (i := 37) rfl))) (mvT hZ (hw _ (List.mem_of_getElem? (i := 38) rfl))) (notFace_of_selects (args := #[]) (mvT hZ (hw _ (List.mem_of_getElem? (i := 40) rfl)))) (mvT hZ (hw _ (List.mem_of_getElem? (i := 40) rfl))) (mvT hZ (hw _ (List.mem_of_getElem? (i := 39) rfl))) (by decide) (backOf (W := 0) (rm5 l Z a0 hw [] b4 (1 : Int32) T9.heap n0 Z9 O9.2.1) hZ (hw _ (List.mem_of_getElem? (i := 41) rfl)) (hw _ (List.mem_of_getElem? (i := 2) rfl)) (by decide) (by decide)) q10a q10c (g := (mkF m 109 #[.val (.long q1), .second, .val (.long q2), .second, .val (.int p3), .val (.ref b4), .val (.int (0 : Int32)), .val (.int (0 : Int32)), .val (.int (0 : Int32)), .val (.int (1 : Int32))] [(.ref b4)])) rfl (by rw [hml]; rfl) (Steps.refl _) (argsL := []) (rest := []) (lenOf pd_0_2 rfl) rfl (by show 2 * 0 + _ ≤ _; exact Nat.le_of_eq rfl) (hb hby at_109) (fun _ _ => ⟨rfl, rfl, (by decide : 5 + 0 ≤ _), (by decide : 1146 + 0 ≤ _)⟩)
  dsimp only [Pt.U, Pt.locs, Pt.cells, Pt.slots] at X10 l10 y10 z10 st10 hQ10
  subst l10 y10 z10
  obtain ⟨rfl, N10q, e10q⟩ := hQ10
  have O10 : own_O Z T10.heap b4 b mk (1 : Int32) ((0 : Int32) + (q2.toInt32)) := by rw [e10q]; exact O9
  have M10 : own_M Z T10.heap mk (own_u 0 (0 : Int32) (fun _ => 0)) := by rw [e10q]; exact M9
  have Z10 : n0 ≤ T10.heap.size := by rw [e10q]; exact Z9
  have N10 := Fr.app N9 N10q
  -- pc 121: org/codeweft/fhir/OpenTags.held by the contract of the body that the receiver's class selects, rm6
  obtain ⟨cq11, kq11, q11a, q11b, q11c⟩ := isOf hZ rfl O10.1
  obtain ⟨_, _, ⟨T11, L11, k11, n11⟩, -, X11, ⟨Lc11, hQ11, l11, y11, z11⟩, st11⟩ := X10.virtualBack hx (y := (⟨"org/codeweft/fhir/OpenTags", "held", "()I"⟩ : MethodName)) (z := (⟨"org/codeweft/fhir/OpenTags", "held", "()I"⟩ : MethodName)) hown (mvT hZ (hw _ (List.mem_of_getElem? (i := 44) rfl))) (mvT hZ (hw _ (List.mem_of_getElem? (i := 45) rfl))) (notFace_of_selects (args := #[]) (mvT hZ (hw _ (List.mem_of_getElem? (i := 47) rfl)))) (mvT hZ (hw _ (List.mem_of_getElem? (i := 47) rfl))) (mvT hZ (hw _ (List.mem_of_getElem? (i := 46) rfl))) (by decide) (backOf (W := 0) (rm6 l Z a0 hw [] b4 ((0 : Int32) + (q2.toInt32)) T10.heap n0 Z10 O10.2.2.1) hZ (hw _ (List.mem_of_getElem? (i := 48) rfl)) (hw _ (List.mem_of_getElem? (i := 2) rfl)) (by decide) (by decide)) q11a q11c (g := (mkF m 121 #[.val (.long q1), .second, .val (.long q2), .second, .val (.int p3), .val (.ref b4), .val (.int (0 : Int32)), .val (.int (0 : Int32)), .val (.int (0 : Int32)), .val (.int (1 : Int32))] [(.ref b4)])) rfl (by rw [hml]; rfl) (Steps.refl _) (argsL := []) (rest := []) (lenOf pd_0_2 rfl) rfl (by show 2 * 0 + _ ≤ _; exact Nat.le_of_eq rfl) (hb hby at_121) (fun _ _ => ⟨rfl, rfl, (by decide : 5 + 0 ≤ _), (by decide : 1146 + 0 ≤ _)⟩)
  dsimp only [Pt.U, Pt.locs, Pt.cells, Pt.slots] at X11 l11 y11 z11 st11 hQ11
  subst l11 y11 z11
  obtain ⟨rfl, N11q, e11q⟩ := hQ11
  have O11 : own_O Z T11.heap b4 b mk (1 : Int32) ((0 : Int32) + (q2.toInt32)) := by rw [e11q]; exact O10
  have M11 : own_M Z T11.heap mk (own_u 0 (0 : Int32) (fun _ => 0)) := by rw [e11q]; exact M10
  have Z11 : n0 ≤ T11.heap.size := by rw [e11q]; exact Z10
  have N11 := Fr.app N10 N11q
  -- pc 141: org/codeweft/fhir/OpenTags.close by the contract of the body that the receiver's class selects, rm11
  obtain ⟨cq12, kq12, q12a, q12b, q12c⟩ := isOf hZ rfl O11.1
  obtain ⟨_, _, ⟨T12, L12, k12, n12⟩, -, X12, ⟨Lc12, hQ12, l12, y12, z12⟩, st12⟩ := X11.virtualBack hx (y := (⟨"org/codeweft/fhir/OpenTags", "close", "()V"⟩ : MethodName)) (z := (⟨"org/codeweft/fhir/OpenTags", "close", "()V"⟩ : MethodName)) hown (mvT hZ (hw _ (List.mem_of_getElem? (i := 75) rfl))) (mvT hZ (hw _ (List.mem_of_getElem? (i := 76) rfl))) (notFace_of_selects (args := #[]) (mvT hZ (hw _ (List.mem_of_getElem? (i := 78) rfl)))) (mvT hZ (hw _ (List.mem_of_getElem? (i := 78) rfl))) (mvT hZ (hw _ (List.mem_of_getElem? (i := 77) rfl))) (by decide) (backOf (W := 0) (rm11_0 l Z a0 hw [] b4 b mk ((0 : Int32) + (q2.toInt32)) (own_u 0 (0 : Int32) (fun _ => 0)) T11.heap n0 Z11 g_b4 O11 M11 gm am ab bm rfl rfl) hZ (hw _ (List.mem_of_getElem? (i := 79) rfl)) (hw _ (List.mem_of_getElem? (i := 2) rfl)) (by decide) (by decide)) q12a q12c (g := (mkF m 141 #[.val (.long q1), .second, .val (.long q2), .second, .val (.int p3), .val (.ref b4), .val (.int (0 : Int32)), .val (.int (0 : Int32)), .val (.int (0 : Int32)), .val (.int (1 : Int32))] [(.ref b4)])) rfl (by rw [hml]; rfl) (Steps.refl _) (argsL := []) (rest := []) (lenOf pd_0_0 rfl) rfl (by show 2 * 0 + _ ≤ _; exact Nat.le_of_eq rfl) (hb hby at_141) (fun _ _ => ⟨rfl, rfl, (by decide : 5 + 0 ≤ _), (by decide : 1146 + 0 ≤ _)⟩)
  dsimp only [Pt.U, Pt.locs, Pt.cells, Pt.slots] at X12 l12 y12 z12 st12 hQ12
  subst l12 y12 z12
  obtain ⟨rfl, N12q, K12, O12', M12⟩ := hQ12
  have Z12 : n0 ≤ T12.heap.size := Nat.le_trans Z11 K12.1
  have O12 : own_O Z T12.heap b4 b mk (0 : Int32) (0 : Int32) := O12'
  have N12 := Fr.app N11 N12q
  -- pc 151: org/codeweft/fhir/OpenTags.count by the contract of the body that the receiver's class selects, rm5
  obtain ⟨cq13, kq13, q13a, q13b, q13c⟩ := isOf hZ rfl O12.1
  obtain ⟨_, _, ⟨T13, L13, k13, n13⟩, -, X13, ⟨Lc13, hQ13, l13, y13, z13⟩, st13⟩ := X12.virtualBack hx (y := (⟨"org/codeweft/fhir/OpenTags", "count", "()I"⟩ : MethodName)) (z := (⟨"org/codeweft/fhir/OpenTags", "count", "()I"⟩ : MethodName)) hown (mvT hZ (hw _ (List.mem_of_getElem? (i := 37) rfl))) (mvT hZ (hw _ (List.mem_of_getElem? (i := 38) rfl))) (notFace_of_selects (args := #[]) (mvT hZ (hw _ (List.mem_of_getElem? (i := 40) rfl)))) (mvT hZ (hw _ (List.mem_of_getElem? (i := 40) rfl))) (mvT hZ (hw _ (List.mem_of_getElem? (i := 39) rfl))) (by decide) (backOf (W := 0) (rm5 l Z a0 hw [] b4 (0 : Int32) T12.heap n0 Z12 O12.2.1) hZ (hw _ (List.mem_of_getElem? (i := 41) rfl)) (hw _ (List.mem_of_getElem? (i := 2) rfl)) (by decide) (by decide)) q13a q13c (g := (mkF m 151 #[.val (.long q1), .second, .val (.long q2), .second, .val (.int p3), .val (.ref b4), .val (.int (0 : Int32)), .val (.int (0 : Int32)), .val (.int (0 : Int32)), .val (.int (1 : Int32))] [(.ref b4)])) rfl (by rw [hml]; rfl) (Steps.refl _) (argsL := []) (rest := []) (lenOf pd_0_2 rfl) rfl (by show 2 * 0 + _ ≤ _; exact Nat.le_of_eq rfl) (hb hby at_151) (fun _ _ => ⟨rfl, rfl, (by decide : 5 + 0 ≤ _), (by decide : 1146 + 0 ≤ _)⟩)
  dsimp only [Pt.U, Pt.locs, Pt.cells, Pt.slots] at X13 l13 y13 z13 st13 hQ13
  subst l13 y13 z13
  obtain ⟨rfl, N13q, e13q⟩ := hQ13
  have O13 : own_O Z T13.heap b4 b mk (0 : Int32) (0 : Int32) := by rw [e13q]; exact O12
  have M13 : own_M Z T13.heap mk (own_u 0 (0 : Int32) (fun _ => 0)) := by rw [e13q]; exact M12
  have Z13 : n0 ≤ T13.heap.size := by rw [e13q]; exact Z12
  have N13 := Fr.app N12 N13q
  -- pc 161: org/codeweft/fhir/OpenTags.held by the contract of the body that the receiver's class selects, rm6
  obtain ⟨cq14, kq14, q14a, q14b, q14c⟩ := isOf hZ rfl O13.1
  obtain ⟨_, _, ⟨T14, L14, k14, n14⟩, -, X14, ⟨Lc14, hQ14, l14, y14, z14⟩, st14⟩ := X13.virtualBack hx (y := (⟨"org/codeweft/fhir/OpenTags", "held", "()I"⟩ : MethodName)) (z := (⟨"org/codeweft/fhir/OpenTags", "held", "()I"⟩ : MethodName)) hown (mvT hZ (hw _ (List.mem_of_getElem? (i := 44) rfl))) (mvT hZ (hw _ (List.mem_of_getElem? (i := 45) rfl))) (notFace_of_selects (args := #[]) (mvT hZ (hw _ (List.mem_of_getElem? (i := 47) rfl)))) (mvT hZ (hw _ (List.mem_of_getElem? (i := 47) rfl))) (mvT hZ (hw _ (List.mem_of_getElem? (i := 46) rfl))) (by decide) (backOf (W := 0) (rm6 l Z a0 hw [] b4 (0 : Int32) T13.heap n0 Z13 O13.2.2.1) hZ (hw _ (List.mem_of_getElem? (i := 48) rfl)) (hw _ (List.mem_of_getElem? (i := 2) rfl)) (by decide) (by decide)) q14a q14c (g := (mkF m 161 #[.val (.long q1), .second, .val (.long q2), .second, .val (.int p3), .val (.ref b4), .val (.int (0 : Int32)), .val (.int (0 : Int32)), .val (.int (0 : Int32)), .val (.int (1 : Int32))] [(.ref b4)])) rfl (by rw [hml]; rfl) (Steps.refl _) (argsL := []) (rest := []) (lenOf pd_0_2 rfl) rfl (by show 2 * 0 + _ ≤ _; exact Nat.le_of_eq rfl) (hb hby at_161) (fun _ _ => ⟨rfl, rfl, (by decide : 5 + 0 ≤ _), (by decide : 1146 + 0 ≤ _)⟩)
  dsimp only [Pt.U, Pt.locs, Pt.cells, Pt.slots] at X14 l14 y14 z14 st14 hQ14
  subst l14 y14 z14
  obtain ⟨rfl, N14q, e14q⟩ := hQ14
  have O14 : own_O Z T14.heap b4 b mk (0 : Int32) (0 : Int32) := by rw [e14q]; exact O13
  have M14 : own_M Z T14.heap mk (own_u 0 (0 : Int32) (fun _ => 0)) := by rw [e14q]; exact M13
  have Z14 : n0 ≤ T14.heap.size := by rw [e14q]; exact Z13
  have N14 := Fr.app N13 N14q
  obtain ⟨fs, hr, hrun, hended, hW, hsame⟩ := X14.leave (v := some (.int (1 : Int32))) (fun h => by rw [Bd.returns] at h; cases h)
  refine ⟨_, _, pre0 _ ?_, hrun, hended, _, _, rfl, ?_, ⟨_, rfl⟩, hW, hsame.mono (by decide) (by decide)⟩
  -- 4. STEPS
  · show Steps p.tables e below (s₁.setTop (mkF m 0 #[.val (.long q1), .second, .val (.long q2), .second, .val (.int p3), .unset, .unset, .unset, .unset, .unset] [])) _
    refine st4 _ ?_
    show Steps p.tables e below (T4.setTop (mkF m 3 #[.val (.long q1), .second, .val (.long q2), .second, .val (.int p3), .unset, .unset, .unset, .unset, .unset] [(.ref b4)])) _
    refine XS.dup X4.here hx rfl (hb hby at_3) rfl rfl ?_
    show Steps p.tables e below (T4.setTop (mkF m 4 #[.val (.long q1), .second, .val (.long q2), .second, .val (.int p3), .unset, .unset, .unset, .unset, .unset] [(.ref b4), (.ref b4)])) _
    refine st5.trans ?_
    show Steps p.tables e below (T5.setTop (mkF m 7 #[.val (.long q1), .second, .val (.long q2), .second, .val (.int p3), .unset, .unset, .unset, .unset, .unset] [(.ref b4)])) _
    refine XS.astore X5.here hx rfl (hb hby at_7) rfl rfl (l' := #[.val (.long q1), .second, .val (.long q2), .second, .val (.int p3), .val (.ref b4), .unset, .unset, .unset, .unset]) rfl ?_
    show Steps p.tables e below (T5.setTop (mkF m 9 #[.val (.long q1), .second, .val (.long q2), .second, .val (.int p3), .val (.ref b4), .unset, .unset, .unset, .unset] [])) _
    refine XS.iload X5.here hx rfl (hb hby at_9) rfl ?_
    show Steps p.tables e below (T5.setTop (mkF m 11 #[.val (.long q1), .second, .val (.long q2), .second, .val (.int p3), .val (.ref b4), .unset, .unset, .unset, .unset] [(.int p3)])) _
    refine XS.iconst X5.here hx rfl (hb hby at_11) ?_
    show Steps p.tables e below (T5.setTop (mkF m 12 #[.val (.long q1), .second, .val (.long q2), .second, .val (.int p3), .val (.ref b4), .unset, .unset, .unset, .unset] [(.int (1 : Int32)), (.int p3)])) _
    refine XS.iand X5.here hx rfl (hb hby at_12) rfl ?_
    show Steps p.tables e below (T5.setTop (mkF m 13 #[.val (.long q1), .second, .val (.long q2), .second, .val (.int p3), .val (.ref b4), .unset, .unset, .unset, .unset] [(.int (p3 &&& (1 : Int32)))])) _
    refine XS.ifYes X5.here hx rfl (pc0 := 13) (pc' := 20) rfl (hb hby at_13) rfl ((if0 _ _).trans (teq hc13).1) (by decide) (by decide) ?_
    show Steps p.tables e below (T5.setTop (mkF m 20 #[.val (.long q1), .second, .val (.long q2), .second, .val (.int p3), .val (.ref b4), .unset, .unset, .unset, .unset] [])) _
    refine XS.iconst X5.here hx rfl (hb hby at_20) ?_
    show Steps p.tables e below (T5.setTop (mkF m 21 #[.val (.long q1), .second, .val (.long q2), .second, .val (.int p3), .val (.ref b4), .unset, .unset, .unset, .unset] [(.int (0 : Int32))])) _
    refine XS.istore X5.here hx rfl (hb hby at_21) rfl (l' := #[.val (.long q1), .second, .val (.long q2), .second, .val (.int p3), .val (.ref b4), .val (.int (0 : Int32)), .unset, .unset, .unset]) rfl ?_
    show Steps p.tables e below (T5.setTop (mkF m 23 #[.val (.long q1), .second, .val (.long q2), .second, .val (.int p3), .val (.ref b4), .val (.int (0 : Int32)), .unset, .unset, .unset] [])) _
    refine XS.iload X5.here hx rfl (hb hby at_23) rfl ?_
    show Steps p.tables e below (T5.setTop (mkF m 25 #[.val (.long q1), .second, .val (.long q2), .second, .val (.int p3), .val (.ref b4), .val (.int (0 : Int32)), .unset, .unset, .unset] [(.int (0 : Int32))])) _
    refine XS.ifYes X5.here hx rfl (pc0 := 25) (pc' := 39) rfl (hb hby at_25) rfl ((if0 _ _).trans (teq (rfl : (0 : Int32) = (0 : Int32))).1) (by decide) (by decide) ?_
    show Steps p.tables e below (T5.setTop (mkF m 39 #[.val (.long q1), .second, .val (.long q2), .second, .val (.int p3), .val (.ref b4), .val (.int (0 : Int32)), .unset, .unset, .unset] [])) _
    refine XS.aload X5.here hx rfl (hb hby at_39) rfl rfl ?_
    show Steps p.tables e below (T5.setTop (mkF m 41 #[.val (.long q1), .second, .val (.long q2), .second, .val (.int p3), .val (.ref b4), .val (.int (0 : Int32)), .unset, .unset, .unset] [(.ref b4)])) _
    refine st6.trans ?_
    show Steps p.tables e below (T6.setTop (mkF m 44 #[.val (.long q1), .second, .val (.long q2), .second, .val (.int p3), .val (.ref b4), .val (.int (0 : Int32)), .unset, .unset, .unset] [(.int (0 : Int32))])) _
    refine XS.istore X6.here hx rfl (hb hby at_44) rfl (l' := #[.val (.long q1), .second, .val (.long q2), .second, .val (.int p3), .val (.ref b4), .val (.int (0 : Int32)), .val (.int (0 : Int32)), .unset, .unset]) rfl ?_
    show Steps p.tables e below (T6.setTop (mkF m 46 #[.val (.long q1), .second, .val (.long q2), .second, .val (.int p3), .val (.ref b4), .val (.int (0 : Int32)), .val (.int (0 : Int32)), .unset, .unset] [])) _
    refine XS.aload X6.here hx rfl (hb hby at_46) rfl rfl ?_
    show Steps p.tables e below (T6.setTop (mkF m 48 #[.val (.long q1), .second, .val (.long q2), .second, .val (.int p3), .val (.ref b4), .val (.int (0 : Int32)), .val (.int (0 : Int32)), .unset, .unset] [(.ref b4)])) _
    refine st7.trans ?_
    show Steps p.tables e below (T7.setTop (mkF m 51 #[.val (.long q1), .second, .val (.long q2), .second, .val (.int p3), .val (.ref b4), .val (.int (0 : Int32)), .val (.int (0 : Int32)), .unset, .unset] [(.int (0 : Int32))])) _
    refine XS.istore X7.here hx rfl (hb hby at_51) rfl (l' := #[.val (.long q1), .second, .val (.long q2), .second, .val (.int p3), .val (.ref b4), .val (.int (0 : Int32)), .val (.int (0 : Int32)), .val (.int (0 : Int32)), .unset]) rfl ?_
    show Steps p.tables e below (T7.setTop (mkF m 53 #[.val (.long q1), .second, .val (.long q2), .second, .val (.int p3), .val (.ref b4), .val (.int (0 : Int32)), .val (.int (0 : Int32)), .val (.int (0 : Int32)), .unset] [])) _
    refine XS.iload X7.here hx rfl (hb hby at_53) rfl ?_
    show Steps p.tables e below (T7.setTop (mkF m 55 #[.val (.long q1), .second, .val (.long q2), .second, .val (.int p3), .val (.ref b4), .val (.int (0 : Int32)), .val (.int (0 : Int32)), .val (.int (0 : Int32)), .unset] [(.int (0 : Int32))])) _
    refine XS.iload X7.here hx rfl (hb hby at_55) rfl ?_
    show Steps p.tables e below (T7.setTop (mkF m 57 #[.val (.long q1), .second, .val (.long q2), .second, .val (.int p3), .val (.ref b4), .val (.int (0 : Int32)), .val (.int (0 : Int32)), .val (.int (0 : Int32)), .unset] [(.int (0 : Int32)), (.int (0 : Int32))])) _
    refine XS.ifYes X7.here hx rfl (pc0 := 57) (pc' := 64) rfl (hb hby at_57) rfl ((if0 _ _).trans (teq (rfl : (0 : Int32) = (0 : Int32))).1) (by decide) (by decide) ?_
    show Steps p.tables e below (T7.setTop (mkF m 64 #[.val (.long q1), .second, .val (.long q2), .second, .val (.int p3), .val (.ref b4), .val (.int (0 : Int32)), .val (.int (0 : Int32)), .val (.int (0 : Int32)), .unset] [(.int (0 : Int32))])) _
    refine XS.iconst X7.here hx rfl (hb hby at_64) ?_
    show Steps p.tables e below (T7.setTop (mkF m 65 #[.val (.long q1), .second, .val (.long q2), .second, .val (.int p3), .val (.ref b4), .val (.int (0 : Int32)), .val (.int (0 : Int32)), .val (.int (0 : Int32)), .unset] [(.int (0 : Int32)), (.int (0 : Int32))])) _
    refine XS.icmpNo X7.here hx rfl (hb hby at_65) rfl (teq (by first | rfl | decide | exact Int32.zero_add _ : (0 : Int32) = (0 : Int32))).2 ?_
    show Steps p.tables e below (T7.setTop (mkF m 68 #[.val (.long q1), .second, .val (.long q2), .second, .val (.int p3), .val (.ref b4), .val (.int (0 : Int32)), .val (.int (0 : Int32)), .val (.int (0 : Int32)), .unset] [])) _
    refine XS.iload X7.here hx rfl (hb hby at_68) rfl ?_
    show Steps p.tables e below (T7.setTop (mkF m 70 #[.val (.long q1), .second, .val (.long q2), .second, .val (.int p3), .val (.ref b4), .val (.int (0 : Int32)), .val (.int (0 : Int32)), .val (.int (0 : Int32)), .unset] [(.int (0 : Int32))])) _
    refine XS.iload X7.here hx rfl (hb hby at_70) rfl ?_
    show Steps p.tables e below (T7.setTop (mkF m 72 #[.val (.long q1), .second, .val (.long q2), .second, .val (.int p3), .val (.ref b4), .val (.int (0 : Int32)), .val (.int (0 : Int32)), .val (.int (0 : Int32)), .unset] [(.int (0 : Int32)), (.int (0 : Int32))])) _
    refine XS.ifYes X7.here hx rfl (pc0 := 72) (pc' := 80) rfl (hb hby at_72) rfl ((if0 _ _).trans (teq (rfl : (0 : Int32) = (0 : Int32))).1) (by decide) (by decide) ?_
    show Steps p.tables e below (T7.setTop (mkF m 80 #[.val (.long q1), .second, .val (.long q2), .second, .val (.int p3), .val (.ref b4), .val (.int (0 : Int32)), .val (.int (0 : Int32)), .val (.int (0 : Int32)), .unset] [(.int (0 : Int32))])) _
    refine XS.iconst X7.here hx rfl (hb hby at_80) ?_
    show Steps p.tables e below (T7.setTop (mkF m 81 #[.val (.long q1), .second, .val (.long q2), .second, .val (.int p3), .val (.ref b4), .val (.int (0 : Int32)), .val (.int (0 : Int32)), .val (.int (0 : Int32)), .unset] [(.int (0 : Int32)), (.int (0 : Int32))])) _
    refine XS.icmpNo X7.here hx rfl (hb hby at_81) rfl (teq (by first | rfl | decide | exact Int32.zero_add _ : (0 : Int32) = (0 : Int32))).2 ?_
    show Steps p.tables e below (T7.setTop (mkF m 84 #[.val (.long q1), .second, .val (.long q2), .second, .val (.int p3), .val (.ref b4), .val (.int (0 : Int32)), .val (.int (0 : Int32)), .val (.int (0 : Int32)), .unset] [])) _
    refine XS.iconst X7.here hx rfl (hb hby at_84) ?_
    show Steps p.tables e below (T7.setTop (mkF m 85 #[.val (.long q1), .second, .val (.long q2), .second, .val (.int p3), .val (.ref b4), .val (.int (0 : Int32)), .val (.int (0 : Int32)), .val (.int (0 : Int32)), .unset] [(.int (1 : Int32))])) _
    refine XS.goto X7.here hx rfl (pc0 := 85) (pc' := 89) rfl (hb hby at_85) (by decide) (by decide) ?_
    show Steps p.tables e below (T7.setTop (mkF m 89 #[.val (.long q1), .second, .val (.long q2), .second, .val (.int p3), .val (.ref b4), .val (.int (0 : Int32)), .val (.int (0 : Int32)), .val (.int (0 : Int32)), .unset] [(.int (1 : Int32))])) _
    refine XS.istore X7.here hx rfl (hb hby at_89) rfl (l' := #[.val (.long q1), .second, .val (.long q2), .second, .val (.int p3), .val (.ref b4), .val (.int (0 : Int32)), .val (.int (0 : Int32)), .val (.int (0 : Int32)), .val (.int (1 : Int32))]) rfl ?_
    show Steps p.tables e below (T7.setTop (mkF m 91 #[.val (.long q1), .second, .val (.long q2), .second, .val (.int p3), .val (.ref b4), .val (.int (0 : Int32)), .val (.int (0 : Int32)), .val (.int (0 : Int32)), .val (.int (1 : Int32))] [])) _
    refine XS.aload X7.here hx rfl (hb hby at_91) rfl rfl ?_
    show Steps p.tables e below (T7.setTop (mkF m 93 #[.val (.long q1), .second, .val (.long q2), .second, .val (.int p3), .val (.ref b4), .val (.int (0 : Int32)), .val (.int (0 : Int32)), .val (.int (0 : Int32)), .val (.int (1 : Int32))] [(.ref b4)])) _
    refine st8.trans ?_
    show Steps p.tables e below (T8.setTop (mkF m 96 #[.val (.long q1), .second, .val (.long q2), .second, .val (.int p3), .val (.ref b4), .val (.int (0 : Int32)), .val (.int (0 : Int32)), .val (.int (0 : Int32)), .val (.int (1 : Int32))] [])) _
    refine XS.aload X8.here hx rfl (hb hby at_96) rfl rfl ?_
    show Steps p.tables e below (T8.setTop (mkF m 98 #[.val (.long q1), .second, .val (.long q2), .second, .val (.int p3), .val (.ref b4), .val (.int (0 : Int32)), .val (.int (0 : Int32)), .val (.int (0 : Int32)), .val (.int (1 : Int32))] [(.ref b4)])) _
    refine XS.lloadN X8.here hx rfl (hb hby at_98) rfl ?_
    show Steps p.tables e below (T8.setTop (mkF m 99 #[.val (.long q1), .second, .val (.long q2), .second, .val (.int p3), .val (.ref b4), .val (.int (0 : Int32)), .val (.int (0 : Int32)), .val (.int (0 : Int32)), .val (.int (1 : Int32))] [(.long q2), (.ref b4)])) _
    refine st9.trans ?_
    show Steps p.tables e below (T9.setTop (mkF m 102 #[.val (.long q1), .second, .val (.long q2), .second, .val (.int p3), .val (.ref b4), .val (.int (0 : Int32)), .val (.int (0 : Int32)), .val (.int (0 : Int32)), .val (.int (1 : Int32))] [])) _
    refine XS.iload X9.here hx rfl (hb hby at_102) rfl ?_
    show Steps p.tables e below (T9.setTop (mkF m 104 #[.val (.long q1), .second, .val (.long q2), .second, .val (.int p3), .val (.ref b4), .val (.int (0 : Int32)), .val (.int (0 : Int32)), .val (.int (0 : Int32)), .val (.int (1 : Int32))] [(.int (1 : Int32))])) _
    refine XS.ifNo X9.here hx rfl (hb hby at_104) rfl ((if0 _ _).trans (feq hc104).1) ?_
    show Steps p.tables e below (T9.setTop (mkF m 107 #[.val (.long q1), .second, .val (.long q2), .second, .val (.int p3), .val (.ref b4), .val (.int (0 : Int32)), .val (.int (0 : Int32)), .val (.int (0 : Int32)), .val (.int (1 : Int32))] [])) _
    refine XS.aload X9.here hx rfl (hb hby at_107) rfl rfl ?_
    show Steps p.tables e below (T9.setTop (mkF m 109 #[.val (.long q1), .second, .val (.long q2), .second, .val (.int p3), .val (.ref b4), .val (.int (0 : Int32)), .val (.int (0 : Int32)), .val (.int (0 : Int32)), .val (.int (1 : Int32))] [(.ref b4)])) _
    refine st10.trans ?_
    show Steps p.tables e below (T10.setTop (mkF m 112 #[.val (.long q1), .second, .val (.long q2), .second, .val (.int p3), .val (.ref b4), .val (.int (0 : Int32)), .val (.int (0 : Int32)), .val (.int (0 : Int32)), .val (.int (1 : Int32))] [(.int (1 : Int32))])) _
    refine XS.iload X10.here hx rfl (hb hby at_112) rfl ?_
    show Steps p.tables e below (T10.setTop (mkF m 114 #[.val (.long q1), .second, .val (.long q2), .second, .val (.int p3), .val (.ref b4), .val (.int (0 : Int32)), .val (.int (0 : Int32)), .val (.int (0 : Int32)), .val (.int (1 : Int32))] [(.int (0 : Int32)), (.int (1 : Int32))])) _
    refine XS.iconst X10.here hx rfl (hb hby at_114) ?_
    show Steps p.tables e below (T10.setTop (mkF m 115 #[.val (.long q1), .second, .val (.long q2), .second, .val (.int p3), .val (.ref b4), .val (.int (0 : Int32)), .val (.int (0 : Int32)), .val (.int (0 : Int32)), .val (.int (1 : Int32))] [(.int (1 : Int32)), (.int (0 : Int32)), (.int (1 : Int32))])) _
    refine XS.iadd X10.here hx rfl (hb hby at_115) rfl ?_
    show Steps p.tables e below (T10.setTop (mkF m 116 #[.val (.long q1), .second, .val (.long q2), .second, .val (.int p3), .val (.ref b4), .val (.int (0 : Int32)), .val (.int (0 : Int32)), .val (.int (0 : Int32)), .val (.int (1 : Int32))] [(.int ((0 : Int32) + (1 : Int32))), (.int (1 : Int32))])) _
    refine XS.icmpNo X10.here hx rfl (hb hby at_116) rfl (teq (by first | rfl | decide | exact Int32.zero_add _ : (1 : Int32) = ((0 : Int32) + (1 : Int32)))).2 ?_
    show Steps p.tables e below (T10.setTop (mkF m 119 #[.val (.long q1), .second, .val (.long q2), .second, .val (.int p3), .val (.ref b4), .val (.int (0 : Int32)), .val (.int (0 : Int32)), .val (.int (0 : Int32)), .val (.int (1 : Int32))] [])) _
    refine XS.aload X10.here hx rfl (hb hby at_119) rfl rfl ?_
    show Steps p.tables e below (T10.setTop (mkF m 121 #[.val (.long q1), .second, .val (.long q2), .second, .val (.int p3), .val (.ref b4), .val (.int (0 : Int32)), .val (.int (0 : Int32)), .val (.int (0 : Int32)), .val (.int (1 : Int32))] [(.ref b4)])) _
    refine st11.trans ?_
    show Steps p.tables e below (T11.setTop (mkF m 124 #[.val (.long q1), .second, .val (.long q2), .second, .val (.int p3), .val (.ref b4), .val (.int (0 : Int32)), .val (.int (0 : Int32)), .val (.int (0 : Int32)), .val (.int (1 : Int32))] [(.int ((0 : Int32) + (q2.toInt32)))])) _
    refine XS.iload X11.here hx rfl (hb hby at_124) rfl ?_
    show Steps p.tables e below (T11.setTop (mkF m 126 #[.val (.long q1), .second, .val (.long q2), .second, .val (.int p3), .val (.ref b4), .val (.int (0 : Int32)), .val (.int (0 : Int32)), .val (.int (0 : Int32)), .val (.int (1 : Int32))] [(.int (0 : Int32)), (.int ((0 : Int32) + (q2.toInt32)))])) _
    refine XS.lloadN X11.here hx rfl (hb hby at_126) rfl ?_
    show Steps p.tables e below (T11.setTop (mkF m 127 #[.val (.long q1), .second, .val (.long q2), .second, .val (.int p3), .val (.ref b4), .val (.int (0 : Int32)), .val (.int (0 : Int32)), .val (.int (0 : Int32)), .val (.int (1 : Int32))] [(.long q2), (.int (0 : Int32)), (.int ((0 : Int32) + (q2.toInt32)))])) _
    refine XS.l2i X11.here hx rfl (hb hby at_127) rfl ?_
    show Steps p.tables e below (T11.setTop (mkF m 128 #[.val (.long q1), .second, .val (.long q2), .second, .val (.int p3), .val (.ref b4), .val (.int (0 : Int32)), .val (.int (0 : Int32)), .val (.int (0 : Int32)), .val (.int (1 : Int32))] [(.int (q2.toInt32)), (.int (0 : Int32)), (.int ((0 : Int32) + (q2.toInt32)))])) _
    refine XS.iadd X11.here hx rfl (hb hby at_128) rfl ?_
    show Steps p.tables e below (T11.setTop (mkF m 129 #[.val (.long q1), .second, .val (.long q2), .second, .val (.int p3), .val (.ref b4), .val (.int (0 : Int32)), .val (.int (0 : Int32)), .val (.int (0 : Int32)), .val (.int (1 : Int32))] [(.int ((0 : Int32) + (q2.toInt32))), (.int ((0 : Int32) + (q2.toInt32)))])) _
    refine XS.icmpNo X11.here hx rfl (hb hby at_129) rfl (teq (by first | rfl | decide | exact Int32.zero_add _ : ((0 : Int32) + (q2.toInt32)) = ((0 : Int32) + (q2.toInt32)))).2 ?_
    show Steps p.tables e below (T11.setTop (mkF m 132 #[.val (.long q1), .second, .val (.long q2), .second, .val (.int p3), .val (.ref b4), .val (.int (0 : Int32)), .val (.int (0 : Int32)), .val (.int (0 : Int32)), .val (.int (1 : Int32))] [])) _
    refine XS.iconst X11.here hx rfl (hb hby at_132) ?_
    show Steps p.tables e below (T11.setTop (mkF m 133 #[.val (.long q1), .second, .val (.long q2), .second, .val (.int p3), .val (.ref b4), .val (.int (0 : Int32)), .val (.int (0 : Int32)), .val (.int (0 : Int32)), .val (.int (1 : Int32))] [(.int (1 : Int32))])) _
    refine XS.goto X11.here hx rfl (pc0 := 133) (pc' := 137) rfl (hb hby at_133) (by decide) (by decide) ?_
    show Steps p.tables e below (T11.setTop (mkF m 137 #[.val (.long q1), .second, .val (.long q2), .second, .val (.int p3), .val (.ref b4), .val (.int (0 : Int32)), .val (.int (0 : Int32)), .val (.int (0 : Int32)), .val (.int (1 : Int32))] [(.int (1 : Int32))])) _
    refine XS.istore X11.here hx rfl (hb hby at_137) rfl (l' := #[.val (.long q1), .second, .val (.long q2), .second, .val (.int p3), .val (.ref b4), .val (.int (0 : Int32)), .val (.int (0 : Int32)), .val (.int (0 : Int32)), .val (.int (1 : Int32))]) rfl ?_
    show Steps p.tables e below (T11.setTop (mkF m 139 #[.val (.long q1), .second, .val (.long q2), .second, .val (.int p3), .val (.ref b4), .val (.int (0 : Int32)), .val (.int (0 : Int32)), .val (.int (0 : Int32)), .val (.int (1 : Int32))] [])) _
    refine XS.aload X11.here hx rfl (hb hby at_139) rfl rfl ?_
    show Steps p.tables e below (T11.setTop (mkF m 141 #[.val (.long q1), .second, .val (.long q2), .second, .val (.int p3), .val (.ref b4), .val (.int (0 : Int32)), .val (.int (0 : Int32)), .val (.int (0 : Int32)), .val (.int (1 : Int32))] [(.ref b4)])) _
    refine st12.trans ?_
    show Steps p.tables e below (T12.setTop (mkF m 144 #[.val (.long q1), .second, .val (.long q2), .second, .val (.int p3), .val (.ref b4), .val (.int (0 : Int32)), .val (.int (0 : Int32)), .val (.int (0 : Int32)), .val (.int (1 : Int32))] [])) _
    refine XS.iload X12.here hx rfl (hb hby at_144) rfl ?_
    show Steps p.tables e below (T12.setTop (mkF m 146 #[.val (.long q1), .second, .val (.long q2), .second, .val (.int p3), .val (.ref b4), .val (.int (0 : Int32)), .val (.int (0 : Int32)), .val (.int (0 : Int32)), .val (.int (1 : Int32))] [(.int (1 : Int32))])) _
    refine XS.ifNo X12.here hx rfl (hb hby at_146) rfl ((if0 _ _).trans (feq hc146).1) ?_
    show Steps p.tables e below (T12.setTop (mkF m 149 #[.val (.long q1), .second, .val (.long q2), .second, .val (.int p3), .val (.ref b4), .val (.int (0 : Int32)), .val (.int (0 : Int32)), .val (.int (0 : Int32)), .val (.int (1 : Int32))] [])) _
    refine XS.aload X12.here hx rfl (hb hby at_149) rfl rfl ?_
    show Steps p.tables e below (T12.setTop (mkF m 151 #[.val (.long q1), .second, .val (.long q2), .second, .val (.int p3), .val (.ref b4), .val (.int (0 : Int32)), .val (.int (0 : Int32)), .val (.int (0 : Int32)), .val (.int (1 : Int32))] [(.ref b4)])) _
    refine st13.trans ?_
    show Steps p.tables e below (T13.setTop (mkF m 154 #[.val (.long q1), .second, .val (.long q2), .second, .val (.int p3), .val (.ref b4), .val (.int (0 : Int32)), .val (.int (0 : Int32)), .val (.int (0 : Int32)), .val (.int (1 : Int32))] [(.int (0 : Int32))])) _
    refine XS.iload X13.here hx rfl (hb hby at_154) rfl ?_
    show Steps p.tables e below (T13.setTop (mkF m 156 #[.val (.long q1), .second, .val (.long q2), .second, .val (.int p3), .val (.ref b4), .val (.int (0 : Int32)), .val (.int (0 : Int32)), .val (.int (0 : Int32)), .val (.int (1 : Int32))] [(.int (0 : Int32)), (.int (0 : Int32))])) _
    refine XS.icmpNo X13.here hx rfl (hb hby at_156) rfl (teq (by first | rfl | decide | exact Int32.zero_add _ : (0 : Int32) = (0 : Int32))).2 ?_
    show Steps p.tables e below (T13.setTop (mkF m 159 #[.val (.long q1), .second, .val (.long q2), .second, .val (.int p3), .val (.ref b4), .val (.int (0 : Int32)), .val (.int (0 : Int32)), .val (.int (0 : Int32)), .val (.int (1 : Int32))] [])) _
    refine XS.aload X13.here hx rfl (hb hby at_159) rfl rfl ?_
    show Steps p.tables e below (T13.setTop (mkF m 161 #[.val (.long q1), .second, .val (.long q2), .second, .val (.int p3), .val (.ref b4), .val (.int (0 : Int32)), .val (.int (0 : Int32)), .val (.int (0 : Int32)), .val (.int (1 : Int32))] [(.ref b4)])) _
    refine st14.trans ?_
    show Steps p.tables e below (T14.setTop (mkF m 164 #[.val (.long q1), .second, .val (.long q2), .second, .val (.int p3), .val (.ref b4), .val (.int (0 : Int32)), .val (.int (0 : Int32)), .val (.int (0 : Int32)), .val (.int (1 : Int32))] [(.int (0 : Int32))])) _
    refine XS.iload X14.here hx rfl (hb hby at_164) rfl ?_
    show Steps p.tables e below (T14.setTop (mkF m 166 #[.val (.long q1), .second, .val (.long q2), .second, .val (.int p3), .val (.ref b4), .val (.int (0 : Int32)), .val (.int (0 : Int32)), .val (.int (0 : Int32)), .val (.int (1 : Int32))] [(.int (0 : Int32)), (.int (0 : Int32))])) _
    refine XS.icmpNo X14.here hx rfl (hb hby at_166) rfl (teq (by first | rfl | decide | exact Int32.zero_add _ : (0 : Int32) = (0 : Int32))).2 ?_
    show Steps p.tables e below (T14.setTop (mkF m 169 #[.val (.long q1), .second, .val (.long q2), .second, .val (.int p3), .val (.ref b4), .val (.int (0 : Int32)), .val (.int (0 : Int32)), .val (.int (0 : Int32)), .val (.int (1 : Int32))] [])) _
    refine XS.iconst X14.here hx rfl (hb hby at_169) ?_
    show Steps p.tables e below (T14.setTop (mkF m 170 #[.val (.long q1), .second, .val (.long q2), .second, .val (.int p3), .val (.ref b4), .val (.int (0 : Int32)), .val (.int (0 : Int32)), .val (.int (0 : Int32)), .val (.int (1 : Int32))] [(.int (1 : Int32))])) _
    refine XS.goto X14.here hx rfl (pc0 := 170) (pc' := 174) rfl (hb hby at_170) (by decide) (by decide) ?_
    show Steps p.tables e below (T14.setTop (mkF m 174 #[.val (.long q1), .second, .val (.long q2), .second, .val (.int p3), .val (.ref b4), .val (.int (0 : Int32)), .val (.int (0 : Int32)), .val (.int (0 : Int32)), .val (.int (1 : Int32))] [(.int (1 : Int32))])) _
    refine XS.istore X14.here hx rfl (hb hby at_174) rfl (l' := #[.val (.long q1), .second, .val (.long q2), .second, .val (.int p3), .val (.ref b4), .val (.int (0 : Int32)), .val (.int (0 : Int32)), .val (.int (0 : Int32)), .val (.int (1 : Int32))]) rfl ?_
    show Steps p.tables e below (T14.setTop (mkF m 176 #[.val (.long q1), .second, .val (.long q2), .second, .val (.int p3), .val (.ref b4), .val (.int (0 : Int32)), .val (.int (0 : Int32)), .val (.int (0 : Int32)), .val (.int (1 : Int32))] [])) _
    refine XS.iload X14.here hx rfl (hb hby at_176) rfl ?_
    show Steps p.tables e below (T14.setTop (mkF m 178 #[.val (.long q1), .second, .val (.long q2), .second, .val (.int p3), .val (.ref b4), .val (.int (0 : Int32)), .val (.int (0 : Int32)), .val (.int (0 : Int32)), .val (.int (1 : Int32))] [(.int (1 : Int32))])) _
    exact retN X14 hx (t := .boolean) Bd.returns (by simp) (hb hby at_178) hr
  · show Q0_z Z h0 n0 _ _ _
    exact ⟨rfl, N14⟩
def Q0_o (Z : State) (h0 : Heap) (n0 : Nat) (v : Option Value) (h : Heap) (L : List Loc) : Prop := v = some (.int (1 : Int32)) ∧ Fr n0 L
set_option maxRecDepth 65536 in
set_option maxHeartbeats 40000000 in
theorem rm0_o (l : Launch) (Z : State) (a0 : Array Value) (hw : ∀ d ∈ tables_1, d.before a0 Z = true) (ws : List Jvm.Cond) (q1 : Int64) (q2 : Int64) (p3 : Int32) (w4 : Int32) (h0 : Heap) (n0 : Nat) (Z0 : n0 ≤ h0.size) (S_C : Sta Z h0 "java/lang/String" "COMPACT_STRINGS" "Z" (.int w4)) (hcs : ¬ (w4 = (0 : Int32))) (hc13 : ¬ ((p3 &&& (1 : Int32)) = (0 : Int32))) (hc25 : ¬ ((1 : Int32) = (0 : Int32))) (hc57 : ¬ ((1 : Int32) = (0 : Int32))) (hc72 : ¬ ((1 : Int32) = (0 : Int32))) (hc104 : ¬ ((1 : Int32) = (0 : Int32))) (hc146 : ¬ ((1 : Int32) = (0 : Int32))) :
    MetFree l x (head1 (Jvm.Cond.code x code maxLocals ret :: ws) room_1) (fun a U => a = #[(.long q1), (.long q2), (.int p3)] ∧ Z.Warmed39 U.vm ∧ U.heap = h0) (fun _ _ _ _ _ => True) (fun _ U o U' => ∃ v L, o = .returned v ∧ Q0_o Z h0 n0 v U'.heap L ∧ FrameEnd U o U' L room_1.cells room_1.slots) := by
  refine MetFree.of_bodySF (plainFor_of_name pn_0) hisR ?_
  intro p e s m args below meth c s₁ Bd hml0 hP hK
  obtain ⟨rfl, hZ, hh⟩ := hP
  have hx := Bd.exec
  have hby := Bd.bytes
  have hml : c.maxLocals = 10 := hml0
  have hown : s.vm.findClass "org/codeweft/fhir/OpenTagsOpenPinLaw" = some m.cls := findClass_of_methodNamed Bd.named
  have hnm := (name_of_methodNamed Bd.named Bd.method).1
  have X0 : Stand p l e room_1 s m #[(.long q1), (.long q2), (.int p3)] below meth c s₁ [] 0 0 := Stand.of_body Bd
  have e0 : s₁.heap = h0 := by rw [← hh, Bd.state]; rfl
  have N0 := Fr.nil n0
  have pre0 : ∀ t, Steps p.tables e below (s₁.setTop (mkF m 0 #[.val (.long q1), .second, .val (.long q2), .second, .val (.int p3), .unset, .unset, .unset, .unset, .unset] [])) t → Steps p.tables e below (s₁.setTop (entryFrame m #[(.long q1), (.long q2), (.int p3)] maxLocals)) t := fun t k => castTop (ef_0 m q1 q2 p3) k
  -- 3. LAWS
  obtain ⟨T4, h4, X4, e4, E4, A4, D4, -, st4⟩ := newO X0 hx hZ hown (hw _ (List.mem_of_getElem? (i := 0) rfl)) (hw _ (List.mem_of_getElem? (i := 1) rfl)) (hw _ (List.mem_of_getElem? (i := 2) rfl)) e0 (g := (mkF m 0 #[.val (.long q1), .second, .val (.long q2), .second, .val (.int p3), .unset, .unset, .unset, .unset, .unset] [])) rfl (hb hby at_0) (by decide) (by decide)
  obtain ⟨b4, g4⟩ : ∃ z, z = h0.size := ⟨_, rfl⟩      -- the fresh object's address
  rw [← g4] at A4 D4 st4      -- A4 : Exa Z h4 b4 "org/codeweft/fhir/OpenTags"; E4 : Ext h0 h4 (carries every older fact: .ext E4)
  have F_declarations_b4 : Fld Z h4 b4 "org/codeweft/fhir/OpenTags" "declarations" "Ljava/lang/StringBuilder;" .null := D4 (Or.inr (hw _ (List.mem_of_getElem? (i := 30) rfl))) (ty := (.object "java/lang/StringBuilder")) (by decide)
  have F_names_b4 : Fld Z h4 b4 "org/codeweft/fhir/OpenTags" "names" "[C" .null := D4 (Or.inl (hw _ (List.mem_of_getElem? (i := 33) rfl))) (ty := (.array .char)) (by decide)
  have F_marks_b4 : Fld Z h4 b4 "org/codeweft/fhir/OpenTags" "marks" "[I" .null := D4 (Or.inl (hw _ (List.mem_of_getElem? (i := 36) rfl))) (ty := (.array .int)) (by decide)
  have F_count_b4 : Fld Z h4 b4 "org/codeweft/fhir/OpenTags" "count" "I" (.int (0 : Int32)) := D4 (Or.inl (hw _ (List.mem_of_getElem? (i := 43) rfl))) (ty := .int) (by decide)
  have F_held_b4 : Fld Z h4 b4 "org/codeweft/fhir/OpenTags" "held" "I" (.int (0 : Int32)) := D4 (Or.inl (hw _ (List.mem_of_getElem? (i := 50) rfl))) (ty := .int) (by decide)
  have F_namesEnd_b4 : Fld Z h4 b4 "org/codeweft/fhir/OpenTags" "namesEnd" "I" (.int (0 : Int32)) := D4 (Or.inl (hw _ (List.mem_of_getElem? (i := 57) rfl))) (ty := .int) (by decide)
  have E_b4 := A4
  have g_b4 : n0 ≤ b4 := Nat.le_trans Z0 (Nat.le_of_eq g4.symm)
  have sz_b4 : h0.size ≤ b4 := (Nat.le_trans (Keep.refl h0 []).1 (Nat.le_of_eq g4.symm))
  have K4 : Keep h0 h4 [] := (Keep.refl h0 []).ext E4
  -- pc 4: the constructor of org/codeweft/fhir/OpenTags by its contract rm1
  obtain ⟨_, _, ⟨T5, L5, k5, n5⟩, -, X5, ⟨Lc5, hQ5, l5, y5, z5⟩, st5⟩ := X4.specialBack hx (y := (⟨"org/codeweft/fhir/OpenTags", "<init>", "()V"⟩ : MethodName)) rfl hown (mvT hZ (hw _ (List.mem_of_getElem? (i := 3) rfl))) (mvT hZ (hw _ (List.mem_of_getElem? (i := 4) rfl))) (mvT hZ (hw _ (List.mem_of_getElem? (i := 5) rfl))) (by decide) (backOf (W := 1) (rm1 l Z a0 hw [] b4 .null .null .null w4 h4 n0 (Nat.le_trans Z0 E4.1) (S_C.ext E4) hcs F_count_b4 F_held_b4 F_namesEnd_b4 E_b4 F_declarations_b4 g_b4 F_names_b4 F_marks_b4) hZ (hw _ (List.mem_of_getElem? (i := 5) rfl)) (hw _ (List.mem_of_getElem? (i := 2) rfl)) (by decide) (by decide)) (g := (mkF m 4 #[.val (.long q1), .second, .val (.long q2), .second, .val (.int p3), .unset, .unset, .unset, .unset, .unset] [(.ref b4), (.ref b4)])) rfl (by rw [hml]; rfl) (Steps.refl _) (a := b4) (argsL := []) (rest := [(.ref b4)]) (lenOf pd_0_0 rfl) rfl (by show 2 * 0 + _ ≤ _; exact Nat.le_of_eq rfl) (hb hby at_4) (fun _ _ => ⟨rfl, e4, (by decide : 1 + 4 ≤ _), (by decide : 6 + 1140 ≤ _)⟩)
  dsimp only [Pt.U, Pt.locs, Pt.cells, Pt.slots] at X5 l5 y5 z5 st5 hQ5
  subst l5 y5 z5
  obtain ⟨rfl, N5q, K5, b, mk, O5, M5, gm, am, ab, bm⟩ := hQ5
  have Z5 : n0 ≤ T5.heap.size := Nat.le_trans (Nat.le_trans Z0 E4.1) K5.1
  have N5 := Fr.app N0 N5q
  -- pc 30: org/codeweft/fhir/OpenTags.begin by the contract of the body that the receiver's class selects, rm7
  obtain ⟨cq6, kq6, q6a, q6b, q6c⟩ := isOf hZ rfl O5.1
  obtain ⟨_, _, ⟨T6, L6, k6, n6⟩, -, X6, ⟨Lc6, hQ6, l6, y6, z6⟩, st6⟩ := X5.virtualBack hx (y := (⟨"org/codeweft/fhir/OpenTags", "begin", "()V"⟩ : MethodName)) (z := (⟨"org/codeweft/fhir/OpenTags", "begin", "()V"⟩ : MethodName)) hown (mvT hZ (hw _ (List.mem_of_getElem? (i := 51) rfl))) (mvT hZ (hw _ (List.mem_of_getElem? (i := 52) rfl))) (notFace_of_selects (args := #[]) (mvT hZ (hw _ (List.mem_of_getElem? (i := 54) rfl)))) (mvT hZ (hw _ (List.mem_of_getElem? (i := 54) rfl))) (mvT hZ (hw _ (List.mem_of_getElem? (i := 53) rfl))) (by decide) (backOf (W := 0) (rm7_0 l Z a0 hw [] b4 b mk (0 : Int32) (fun _ => 0) T5.heap n0 Z5 O5 M5 gm am ab bm) hZ (hw _ (List.mem_of_getElem? (i := 55) rfl)) (hw _ (List.mem_of_getElem? (i := 2) rfl)) (by decide) (by decide)) q6a q6c (g := (mkF m 30 #[.val (.long q1), .second, .val (.long q2), .second, .val (.int p3), .val (.ref b4), .val (.int (1 : Int32)), .unset, .unset, .unset] [(.ref b4)])) rfl (by rw [hml]; rfl) (Steps.refl _) (argsL := []) (rest := []) (lenOf pd_0_0 rfl) rfl (by show 2 * 0 + _ ≤ _; exact Nat.le_of_eq rfl) (hb hby at_30) (fun _ _ => ⟨rfl, rfl, (by decide : 5 + 0 ≤ _), (by decide : 1146 + 0 ≤ _)⟩)
  dsimp only [Pt.U, Pt.locs, Pt.cells, Pt.slots] at X6 l6 y6 z6 st6 hQ6
  subst l6 y6 z6
  obtain ⟨rfl, N6q, K6, O6, M6⟩ := hQ6
  have Z6 : n0 ≤ T6.heap.size := Nat.le_trans Z5 K6.1
  have N6 := Fr.app N5 N6q
  -- pc 36: org/codeweft/fhir/OpenTags.open by the contract of the body that the receiver's class selects, rm10
  obtain ⟨cq7, kq7, q7a, q7b, q7c⟩ := isOf hZ rfl O6.1
  obtain ⟨_, _, ⟨T7, L7, k7, n7⟩, -, X7, ⟨Lc7, hQ7, l7, y7, z7⟩, st7⟩ := X6.virtualBack hx (y := (⟨"org/codeweft/fhir/OpenTags", "open", "(J)V"⟩ : MethodName)) (z := (⟨"org/codeweft/fhir/OpenTags", "open", "(J)V"⟩ : MethodName)) hown (mvT hZ (hw _ (List.mem_of_getElem? (i := 70) rfl))) (mvT hZ (hw _ (List.mem_of_getElem? (i := 71) rfl))) (notFace_of_selects (args := #[]) (mvT hZ (hw _ (List.mem_of_getElem? (i := 73) rfl)))) (mvT hZ (hw _ (List.mem_of_getElem? (i := 73) rfl))) (mvT hZ (hw _ (List.mem_of_getElem? (i := 72) rfl))) (by decide) (backOf (W := 0) (rm10_0 l Z a0 hw [] b4 b mk q1 (0 : Int32) (own_u 0 (0 : Int32) (fun _ => 0)) T6.heap n0 Z6 g_b4 O6 M6 gm am ab bm) hZ (hw _ (List.mem_of_getElem? (i := 74) rfl)) (hw _ (List.mem_of_getElem? (i := 2) rfl)) (by decide) (by decide)) q7a q7c (g := (mkF m 36 #[.val (.long q1), .second, .val (.long q2), .second, .val (.int p3), .val (.ref b4), .val (.int (1 : Int32)), .unset, .unset, .unset] [(.long q1), (.ref b4)])) rfl (by rw [hml]; rfl) (Steps.refl _) (argsL := [(.long q1)]) (rest := []) (lenOf pd_0_3 rfl) rfl (by show 2 * 0 + _ ≤ _; exact Nat.le_of_eq rfl) (hb hby at_36) (fun _ _ => ⟨rfl, rfl, (by decide : 5 + 0 ≤ _), (by decide : 1146 + 0 ≤ _)⟩)
  dsimp only [Pt.U, Pt.locs, Pt.cells, Pt.slots] at X7 l7 y7 z7 st7 hQ7
  subst l7 y7 z7
  obtain ⟨rfl, N7q, K7, O7, M7⟩ := hQ7
  have Z7 : n0 ≤ T7.heap.size := Nat.le_trans Z6 K7.1
  have N7 := Fr.app N6 N7q
  -- pc 41: org/codeweft/fhir/OpenTags.count by the contract of the body that the receiver's class selects, rm5
  obtain ⟨cq8, kq8, q8a, q8b, q8c⟩ := isOf hZ rfl O7.1
  obtain ⟨_, _, ⟨T8, L8, k8, n8⟩, -, X8, ⟨Lc8, hQ8, l8, y8, z8⟩, st8⟩ := X7.virtualBack hx (y := (⟨"org/codeweft/fhir/OpenTags", "count", "()I"⟩ : MethodName)) (z := (⟨"org/codeweft/fhir/OpenTags", "count", "()I"⟩ : MethodName)) hown (mvT hZ (hw _ (List.mem_of_getElem? (i := 37) rfl))) (mvT hZ (hw _ (List.mem_of_getElem? (i := 38) rfl))) (notFace_of_selects (args := #[]) (mvT hZ (hw _ (List.mem_of_getElem? (i := 40) rfl)))) (mvT hZ (hw _ (List.mem_of_getElem? (i := 40) rfl))) (mvT hZ (hw _ (List.mem_of_getElem? (i := 39) rfl))) (by decide) (backOf (W := 0) (rm5 l Z a0 hw [] b4 (1 : Int32) T7.heap n0 Z7 O7.2.1) hZ (hw _ (List.mem_of_getElem? (i := 41) rfl)) (hw _ (List.mem_of_getElem? (i := 2) rfl)) (by decide) (by decide)) q8a q8c (g := (mkF m 41 #[.val (.long q1), .second, .val (.long q2), .second, .val (.int p3), .val (.ref b4), .val (.int (1 : Int32)), .unset, .unset, .unset] [(.ref b4)])) rfl (by rw [hml]; rfl) (Steps.refl _) (argsL := []) (rest := []) (lenOf pd_0_2 rfl) rfl (by show 2 * 0 + _ ≤ _; exact Nat.le_of_eq rfl) (hb hby at_41) (fun _ _ => ⟨rfl, rfl, (by decide : 5 + 0 ≤ _), (by decide : 1146 + 0 ≤ _)⟩)
  dsimp only [Pt.U, Pt.locs, Pt.cells, Pt.slots] at X8 l8 y8 z8 st8 hQ8
  subst l8 y8 z8
  obtain ⟨rfl, N8q, e8q⟩ := hQ8
  have O8 : own_O Z T8.heap b4 b mk (1 : Int32) ((0 : Int32) + (q1.toInt32)) := by rw [e8q]; exact O7
  have M8 : own_M Z T8.heap mk (own_u 0 (0 : Int32) (fun _ => 0)) := by rw [e8q]; exact M7
  have Z8 : n0 ≤ T8.heap.size := by rw [e8q]; exact Z7
  have N8 := Fr.app N7 N8q
  -- pc 48: org/codeweft/fhir/OpenTags.held by the contract of the body that the receiver's class selects, rm6
  obtain ⟨cq9, kq9, q9a, q9b, q9c⟩ := isOf hZ rfl O8.1
  obtain ⟨_, _, ⟨T9, L9, k9, n9⟩, -, X9, ⟨Lc9, hQ9, l9, y9, z9⟩, st9⟩ := X8.virtualBack hx (y := (⟨"org/codeweft/fhir/OpenTags", "held", "()I"⟩ : MethodName)) (z := (⟨"org/codeweft/fhir/OpenTags", "held", "()I"⟩ : MethodName)) hown (mvT hZ (hw _ (List.mem_of_getElem? (i := 44) rfl))) (mvT hZ (hw _ (List.mem_of_getElem? (i := 45) rfl))) (notFace_of_selects (args := #[]) (mvT hZ (hw _ (List.mem_of_getElem? (i := 47) rfl)))) (mvT hZ (hw _ (List.mem_of_getElem? (i := 47) rfl))) (mvT hZ (hw _ (List.mem_of_getElem? (i := 46) rfl))) (by decide) (backOf (W := 0) (rm6 l Z a0 hw [] b4 ((0 : Int32) + (q1.toInt32)) T8.heap n0 Z8 O8.2.2.1) hZ (hw _ (List.mem_of_getElem? (i := 48) rfl)) (hw _ (List.mem_of_getElem? (i := 2) rfl)) (by decide) (by decide)) q9a q9c (g := (mkF m 48 #[.val (.long q1), .second, .val (.long q2), .second, .val (.int p3), .val (.ref b4), .val (.int (1 : Int32)), .val (.int (1 : Int32)), .unset, .unset] [(.ref b4)])) rfl (by rw [hml]; rfl) (Steps.refl _) (argsL := []) (rest := []) (lenOf pd_0_2 rfl) rfl (by show 2 * 0 + _ ≤ _; exact Nat.le_of_eq rfl) (hb hby at_48) (fun _ _ => ⟨rfl, rfl, (by decide : 5 + 0 ≤ _), (by decide : 1146 + 0 ≤ _)⟩)
  dsimp only [Pt.U, Pt.locs, Pt.cells, Pt.slots] at X9 l9 y9 z9 st9 hQ9
  subst l9 y9 z9
  obtain ⟨rfl, N9q, e9q⟩ := hQ9
  have O9 : own_O Z T9.heap b4 b mk (1 : Int32) ((0 : Int32) + (q1.toInt32)) := by rw [e9q]; exact O8
  have M9 : own_M Z T9.heap mk (own_u 0 (0 : Int32) (fun _ => 0)) := by rw [e9q]; exact M8
  have Z9 : n0 ≤ T9.heap.size := by rw [e9q]; exact Z8
  have N9 := Fr.app N8 N9q
  -- pc 93: org/codeweft/fhir/OpenTags.begin by the contract of the body that the receiver's class selects, rm7
  obtain ⟨cq10, kq10, q10a, q10b, q10c⟩ := isOf hZ rfl O9.1
  obtain ⟨_, _, ⟨T10, L10, k10, n10⟩, -, X10, ⟨Lc10, hQ10, l10, y10, z10⟩, st10⟩ := X9.virtualBack hx (y := (⟨"org/codeweft/fhir/OpenTags", "begin", "()V"⟩ : MethodName)) (z := (⟨"org/codeweft/fhir/OpenTags", "begin", "()V"⟩ : MethodName)) hown (mvT hZ (hw _ (List.mem_of_getElem? (i := 51) rfl))) (mvT hZ (hw _ (List.mem_of_getElem? (i := 52) rfl))) (notFace_of_selects (args := #[]) (mvT hZ (hw _ (List.mem_of_getElem? (i := 54) rfl)))) (mvT hZ (hw _ (List.mem_of_getElem? (i := 54) rfl))) (mvT hZ (hw _ (List.mem_of_getElem? (i := 53) rfl))) (by decide) (backOf (W := 0) (rm7_1 l Z a0 hw [] b4 b mk ((0 : Int32) + (q1.toInt32)) (own_u 0 (0 : Int32) (fun _ => 0)) T9.heap n0 Z9 O9 M9 gm am ab bm) hZ (hw _ (List.mem_of_getElem? (i := 55) rfl)) (hw _ (List.mem_of_getElem? (i := 2) rfl)) (by decide) (by decide)) q10a q10c (g := (mkF m 93 #[.val (.long q1), .second, .val (.long q2), .second, .val (.int p3), .val (.ref b4), .val (.int (1 : Int32)), .val (.int (1 : Int32)), .val (.int ((0 : Int32) + (q1.toInt32))), .val (.int (1 : Int32))] [(.ref b4)])) rfl (by rw [hml]; rfl) (Steps.refl _) (argsL := []) (rest := []) (lenOf pd_0_0 rfl) rfl (by show 2 * 0 + _ ≤ _; exact Nat.le_of_eq rfl) (hb hby at_93) (fun _ _ => ⟨rfl, rfl, (by decide : 5 + 0 ≤ _), (by decide : 1146 + 0 ≤ _)⟩)
  dsimp only [Pt.U, Pt.locs, Pt.cells, Pt.slots] at X10 l10 y10 z10 st10 hQ10
  subst l10 y10 z10
  obtain ⟨rfl, N10q, K10, O10, M10⟩ := hQ10
  have Z10 : n0 ≤ T10.heap.size := Nat.le_trans Z9 K10.1
  have N10 := Fr.app N9 N10q
  -- pc 99: org/codeweft/fhir/OpenTags.open by the contract of the body that the receiver's class selects, rm10
  obtain ⟨cq11, kq11, q11a, q11b, q11c⟩ := isOf hZ rfl O10.1
  obtain ⟨_, _, ⟨T11, L11, k11, n11⟩, -, X11, ⟨Lc11, hQ11, l11, y11, z11⟩, st11⟩ := X10.virtualBack hx (y := (⟨"org/codeweft/fhir/OpenTags", "open", "(J)V"⟩ : MethodName)) (z := (⟨"org/codeweft/fhir/OpenTags", "open", "(J)V"⟩ : MethodName)) hown (mvT hZ (hw _ (List.mem_of_getElem? (i := 70) rfl))) (mvT hZ (hw _ (List.mem_of_getElem? (i := 71) rfl))) (notFace_of_selects (args := #[]) (mvT hZ (hw _ (List.mem_of_getElem? (i := 73) rfl)))) (mvT hZ (hw _ (List.mem_of_getElem? (i := 73) rfl))) (mvT hZ (hw _ (List.mem_of_getElem? (i := 72) rfl))) (by decide) (backOf (W := 0) (rm10_1 l Z a0 hw [] b4 b mk q2 ((0 : Int32) + (q1.toInt32)) (own_u 1 ((0 : Int32) + (q1.toInt32)) (own_u 0 (0 : Int32) (fun _ => 0))) T10.heap n0 Z10 g_b4 O10 M10 gm am ab bm) hZ (hw _ (List.mem_of_getElem? (i := 74) rfl)) (hw _ (List.mem_of_getElem? (i := 2) rfl)) (by decide) (by decide)) q11a q11c (g := (mkF m 99 #[.val (.long q1), .second, .val (.long q2), .second, .val (.int p3), .val (.ref b4), .val (.int (1 : Int32)), .val (.int (1 : Int32)), .val (.int ((0 : Int32) + (q1.toInt32))), .val (.int (1 : Int32))] [(.long q2), (.ref b4)])) rfl (by rw [hml]; rfl) (Steps.refl _) (argsL := [(.long q2)]) (rest := []) (lenOf pd_0_3 rfl) rfl (by show 2 * 0 + _ ≤ _; exact Nat.le_of_eq rfl) (hb hby at_99) (fun _ _ => ⟨rfl, rfl, (by decide : 5 + 0 ≤ _), (by decide : 1146 + 0 ≤ _)⟩)
  dsimp only [Pt.U, Pt.locs, Pt.cells, Pt.slots] at X11 l11 y11 z11 st11 hQ11
  subst l11 y11 z11
  obtain ⟨rfl, N11q, K11, O11, M11⟩ := hQ11
  have Z11 : n0 ≤ T11.heap.size := Nat.le_trans Z10 K11.1
  have N11 := Fr.app N10 N11q
  -- pc 109: org/codeweft/fhir/OpenTags.count by the contract of the body that the receiver's class selects, rm5
  obtain ⟨cq12, kq12, q12a, q12b, q12c⟩ := isOf hZ rfl O11.1
  obtain ⟨_, _, ⟨T12, L12, k12, n12⟩, -, X12, ⟨Lc12, hQ12, l12, y12, z12⟩, st12⟩ := X11.virtualBack hx (y := (⟨"org/codeweft/fhir/OpenTags", "count", "()I"⟩ : MethodName)) (z := (⟨"org/codeweft/fhir/OpenTags", "count", "()I"⟩ : MethodName)) hown (mvT hZ (hw _ (List.mem_of_getElem? (i := 37) rfl))) (mvT hZ (hw _ (List.mem_of_getElem? (i := 38) rfl))) (notFace_of_selects (args := #[]) (mvT hZ (hw _ (List.mem_of_getElem? (i := 40) rfl)))) (mvT hZ (hw _ (List.mem_of_getElem? (i := 40) rfl))) (mvT hZ (hw _ (List.mem_of_getElem? (i := 39) rfl))) (by decide) (backOf (W := 0) (rm5 l Z a0 hw [] b4 (2 : Int32) T11.heap n0 Z11 O11.2.1) hZ (hw _ (List.mem_of_getElem? (i := 41) rfl)) (hw _ (List.mem_of_getElem? (i := 2) rfl)) (by decide) (by decide)) q12a q12c (g := (mkF m 109 #[.val (.long q1), .second, .val (.long q2), .second, .val (.int p3), .val (.ref b4), .val (.int (1 : Int32)), .val (.int (1 : Int32)), .val (.int ((0 : Int32) + (q1.toInt32))), .val (.int (1 : Int32))] [(.ref b4)])) rfl (by rw [hml]; rfl) (Steps.refl _) (argsL := []) (rest := []) (lenOf pd_0_2 rfl) rfl (by show 2 * 0 + _ ≤ _; exact Nat.le_of_eq rfl) (hb hby at_109) (fun _ _ => ⟨rfl, rfl, (by decide : 5 + 0 ≤ _), (by decide : 1146 + 0 ≤ _)⟩)
  dsimp only [Pt.U, Pt.locs, Pt.cells, Pt.slots] at X12 l12 y12 z12 st12 hQ12
  subst l12 y12 z12
  obtain ⟨rfl, N12q, e12q⟩ := hQ12
  have O12 : own_O Z T12.heap b4 b mk (2 : Int32) (((0 : Int32) + (q1.toInt32)) + (q2.toInt32)) := by rw [e12q]; exact O11
  have M12 : own_M Z T12.heap mk (own_u 1 ((0 : Int32) + (q1.toInt32)) (own_u 0 (0 : Int32) (fun _ => 0))) := by rw [e12q]; exact M11
  have Z12 : n0 ≤ T12.heap.size := by rw [e12q]; exact Z11
  have N12 := Fr.app N11 N12q
  -- pc 121: org/codeweft/fhir/OpenTags.held by the contract of the body that the receiver's class selects, rm6
  obtain ⟨cq13, kq13, q13a, q13b, q13c⟩ := isOf hZ rfl O12.1
  obtain ⟨_, _, ⟨T13, L13, k13, n13⟩, -, X13, ⟨Lc13, hQ13, l13, y13, z13⟩, st13⟩ := X12.virtualBack hx (y := (⟨"org/codeweft/fhir/OpenTags", "held", "()I"⟩ : MethodName)) (z := (⟨"org/codeweft/fhir/OpenTags", "held", "()I"⟩ : MethodName)) hown (mvT hZ (hw _ (List.mem_of_getElem? (i := 44) rfl))) (mvT hZ (hw _ (List.mem_of_getElem? (i := 45) rfl))) (notFace_of_selects (args := #[]) (mvT hZ (hw _ (List.mem_of_getElem? (i := 47) rfl)))) (mvT hZ (hw _ (List.mem_of_getElem? (i := 47) rfl))) (mvT hZ (hw _ (List.mem_of_getElem? (i := 46) rfl))) (by decide) (backOf (W := 0) (rm6 l Z a0 hw [] b4 (((0 : Int32) + (q1.toInt32)) + (q2.toInt32)) T12.heap n0 Z12 O12.2.2.1) hZ (hw _ (List.mem_of_getElem? (i := 48) rfl)) (hw _ (List.mem_of_getElem? (i := 2) rfl)) (by decide) (by decide)) q13a q13c (g := (mkF m 121 #[.val (.long q1), .second, .val (.long q2), .second, .val (.int p3), .val (.ref b4), .val (.int (1 : Int32)), .val (.int (1 : Int32)), .val (.int ((0 : Int32) + (q1.toInt32))), .val (.int (1 : Int32))] [(.ref b4)])) rfl (by rw [hml]; rfl) (Steps.refl _) (argsL := []) (rest := []) (lenOf pd_0_2 rfl) rfl (by show 2 * 0 + _ ≤ _; exact Nat.le_of_eq rfl) (hb hby at_121) (fun _ _ => ⟨rfl, rfl, (by decide : 5 + 0 ≤ _), (by decide : 1146 + 0 ≤ _)⟩)
  dsimp only [Pt.U, Pt.locs, Pt.cells, Pt.slots] at X13 l13 y13 z13 st13 hQ13
  subst l13 y13 z13
  obtain ⟨rfl, N13q, e13q⟩ := hQ13
  have O13 : own_O Z T13.heap b4 b mk (2 : Int32) (((0 : Int32) + (q1.toInt32)) + (q2.toInt32)) := by rw [e13q]; exact O12
  have M13 : own_M Z T13.heap mk (own_u 1 ((0 : Int32) + (q1.toInt32)) (own_u 0 (0 : Int32) (fun _ => 0))) := by rw [e13q]; exact M12
  have Z13 : n0 ≤ T13.heap.size := by rw [e13q]; exact Z12
  have N13 := Fr.app N12 N13q
  -- pc 141: org/codeweft/fhir/OpenTags.close by the contract of the body that the receiver's class selects, rm11
  obtain ⟨cq14, kq14, q14a, q14b, q14c⟩ := isOf hZ rfl O13.1
  obtain ⟨_, _, ⟨T14, L14, k14, n14⟩, -, X14, ⟨Lc14, hQ14, l14, y14, z14⟩, st14⟩ := X13.virtualBack hx (y := (⟨"org/codeweft/fhir/OpenTags", "close", "()V"⟩ : MethodName)) (z := (⟨"org/codeweft/fhir/OpenTags", "close", "()V"⟩ : MethodName)) hown (mvT hZ (hw _ (List.mem_of_getElem? (i := 75) rfl))) (mvT hZ (hw _ (List.mem_of_getElem? (i := 76) rfl))) (notFace_of_selects (args := #[]) (mvT hZ (hw _ (List.mem_of_getElem? (i := 78) rfl)))) (mvT hZ (hw _ (List.mem_of_getElem? (i := 78) rfl))) (mvT hZ (hw _ (List.mem_of_getElem? (i := 77) rfl))) (by decide) (backOf (W := 0) (rm11_1 l Z a0 hw [] b4 b mk (((0 : Int32) + (q1.toInt32)) + (q2.toInt32)) (own_u 1 ((0 : Int32) + (q1.toInt32)) (own_u 0 (0 : Int32) (fun _ => 0))) T13.heap n0 Z13 g_b4 O13 M13 gm am ab bm rfl rfl) hZ (hw _ (List.mem_of_getElem? (i := 79) rfl)) (hw _ (List.mem_of_getElem? (i := 2) rfl)) (by decide) (by decide)) q14a q14c (g := (mkF m 141 #[.val (.long q1), .second, .val (.long q2), .second, .val (.int p3), .val (.ref b4), .val (.int (1 : Int32)), .val (.int (1 : Int32)), .val (.int ((0 : Int32) + (q1.toInt32))), .val (.int (1 : Int32))] [(.ref b4)])) rfl (by rw [hml]; rfl) (Steps.refl _) (argsL := []) (rest := []) (lenOf pd_0_0 rfl) rfl (by show 2 * 0 + _ ≤ _; exact Nat.le_of_eq rfl) (hb hby at_141) (fun _ _ => ⟨rfl, rfl, (by decide : 5 + 0 ≤ _), (by decide : 1146 + 0 ≤ _)⟩)
  dsimp only [Pt.U, Pt.locs, Pt.cells, Pt.slots] at X14 l14 y14 z14 st14 hQ14
  subst l14 y14 z14
  obtain ⟨rfl, N14q, K14, O14', M14⟩ := hQ14
  have Z14 : n0 ≤ T14.heap.size := Nat.le_trans Z13 K14.1
  have O14 : own_O Z T14.heap b4 b mk (1 : Int32) ((0 : Int32) + (q1.toInt32)) := O14'
  have N14 := Fr.app N13 N14q
  -- pc 151: org/codeweft/fhir/OpenTags.count by the contract of the body that the receiver's class selects, rm5
  obtain ⟨cq15, kq15, q15a, q15b, q15c⟩ := isOf hZ rfl O14.1
  obtain ⟨_, _, ⟨T15, L15, k15, n15⟩, -, X15, ⟨Lc15, hQ15, l15, y15, z15⟩, st15⟩ := X14.virtualBack hx (y := (⟨"org/codeweft/fhir/OpenTags", "count", "()I"⟩ : MethodName)) (z := (⟨"org/codeweft/fhir/OpenTags", "count", "()I"⟩ : MethodName)) hown (mvT hZ (hw _ (List.mem_of_getElem? (i := 37) rfl))) (mvT hZ (hw _ (List.mem_of_getElem? (i := 38) rfl))) (notFace_of_selects (args := #[]) (mvT hZ (hw _ (List.mem_of_getElem? (i := 40) rfl)))) (mvT hZ (hw _ (List.mem_of_getElem? (i := 40) rfl))) (mvT hZ (hw _ (List.mem_of_getElem? (i := 39) rfl))) (by decide) (backOf (W := 0) (rm5 l Z a0 hw [] b4 (1 : Int32) T14.heap n0 Z14 O14.2.1) hZ (hw _ (List.mem_of_getElem? (i := 41) rfl)) (hw _ (List.mem_of_getElem? (i := 2) rfl)) (by decide) (by decide)) q15a q15c (g := (mkF m 151 #[.val (.long q1), .second, .val (.long q2), .second, .val (.int p3), .val (.ref b4), .val (.int (1 : Int32)), .val (.int (1 : Int32)), .val (.int ((0 : Int32) + (q1.toInt32))), .val (.int (1 : Int32))] [(.ref b4)])) rfl (by rw [hml]; rfl) (Steps.refl _) (argsL := []) (rest := []) (lenOf pd_0_2 rfl) rfl (by show 2 * 0 + _ ≤ _; exact Nat.le_of_eq rfl) (hb hby at_151) (fun _ _ => ⟨rfl, rfl, (by decide : 5 + 0 ≤ _), (by decide : 1146 + 0 ≤ _)⟩)
  dsimp only [Pt.U, Pt.locs, Pt.cells, Pt.slots] at X15 l15 y15 z15 st15 hQ15
  subst l15 y15 z15
  obtain ⟨rfl, N15q, e15q⟩ := hQ15
  have O15 : own_O Z T15.heap b4 b mk (1 : Int32) ((0 : Int32) + (q1.toInt32)) := by rw [e15q]; exact O14
  have M15 : own_M Z T15.heap mk (own_u 1 ((0 : Int32) + (q1.toInt32)) (own_u 0 (0 : Int32) (fun _ => 0))) := by rw [e15q]; exact M14
  have Z15 : n0 ≤ T15.heap.size := by rw [e15q]; exact Z14
  have N15 := Fr.app N14 N15q
  -- pc 161: org/codeweft/fhir/OpenTags.held by the contract of the body that the receiver's class selects, rm6
  obtain ⟨cq16, kq16, q16a, q16b, q16c⟩ := isOf hZ rfl O15.1
  obtain ⟨_, _, ⟨T16, L16, k16, n16⟩, -, X16, ⟨Lc16, hQ16, l16, y16, z16⟩, st16⟩ := X15.virtualBack hx (y := (⟨"org/codeweft/fhir/OpenTags", "held", "()I"⟩ : MethodName)) (z := (⟨"org/codeweft/fhir/OpenTags", "held", "()I"⟩ : MethodName)) hown (mvT hZ (hw _ (List.mem_of_getElem? (i := 44) rfl))) (mvT hZ (hw _ (List.mem_of_getElem? (i := 45) rfl))) (notFace_of_selects (args := #[]) (mvT hZ (hw _ (List.mem_of_getElem? (i := 47) rfl)))) (mvT hZ (hw _ (List.mem_of_getElem? (i := 47) rfl))) (mvT hZ (hw _ (List.mem_of_getElem? (i := 46) rfl))) (by decide) (backOf (W := 0) (rm6 l Z a0 hw [] b4 ((0 : Int32) + (q1.toInt32)) T15.heap n0 Z15 O15.2.2.1) hZ (hw _ (List.mem_of_getElem? (i := 48) rfl)) (hw _ (List.mem_of_getElem? (i := 2) rfl)) (by decide) (by decide)) q16a q16c (g := (mkF m 161 #[.val (.long q1), .second, .val (.long q2), .second, .val (.int p3), .val (.ref b4), .val (.int (1 : Int32)), .val (.int (1 : Int32)), .val (.int ((0 : Int32) + (q1.toInt32))), .val (.int (1 : Int32))] [(.ref b4)])) rfl (by rw [hml]; rfl) (Steps.refl _) (argsL := []) (rest := []) (lenOf pd_0_2 rfl) rfl (by show 2 * 0 + _ ≤ _; exact Nat.le_of_eq rfl) (hb hby at_161) (fun _ _ => ⟨rfl, rfl, (by decide : 5 + 0 ≤ _), (by decide : 1146 + 0 ≤ _)⟩)
  dsimp only [Pt.U, Pt.locs, Pt.cells, Pt.slots] at X16 l16 y16 z16 st16 hQ16
  subst l16 y16 z16
  obtain ⟨rfl, N16q, e16q⟩ := hQ16
  have O16 : own_O Z T16.heap b4 b mk (1 : Int32) ((0 : Int32) + (q1.toInt32)) := by rw [e16q]; exact O15
  have M16 : own_M Z T16.heap mk (own_u 1 ((0 : Int32) + (q1.toInt32)) (own_u 0 (0 : Int32) (fun _ => 0))) := by rw [e16q]; exact M15
  have Z16 : n0 ≤ T16.heap.size := by rw [e16q]; exact Z15
  have N16 := Fr.app N15 N16q
  obtain ⟨fs, hr, hrun, hended, hW, hsame⟩ := X16.leave (v := some (.int (1 : Int32))) (fun h => by rw [Bd.returns] at h; cases h)
  refine ⟨_, _, pre0 _ ?_, hrun, hended, _, _, rfl, ?_, ⟨_, rfl⟩, hW, hsame.mono (by decide) (by decide)⟩
  -- 4. STEPS
  · show Steps p.tables e below (s₁.setTop (mkF m 0 #[.val (.long q1), .second, .val (.long q2), .second, .val (.int p3), .unset, .unset, .unset, .unset, .unset] [])) _
    refine st4 _ ?_
    show Steps p.tables e below (T4.setTop (mkF m 3 #[.val (.long q1), .second, .val (.long q2), .second, .val (.int p3), .unset, .unset, .unset, .unset, .unset] [(.ref b4)])) _
    refine XS.dup X4.here hx rfl (hb hby at_3) rfl rfl ?_
    show Steps p.tables e below (T4.setTop (mkF m 4 #[.val (.long q1), .second, .val (.long q2), .second, .val (.int p3), .unset, .unset, .unset, .unset, .unset] [(.ref b4), (.ref b4)])) _
    refine st5.trans ?_
    show Steps p.tables e below (T5.setTop (mkF m 7 #[.val (.long q1), .second, .val (.long q2), .second, .val (.int p3), .unset, .unset, .unset, .unset, .unset] [(.ref b4)])) _
    refine XS.astore X5.here hx rfl (hb hby at_7) rfl rfl (l' := #[.val (.long q1), .second, .val (.long q2), .second, .val (.int p3), .val (.ref b4), .unset, .unset, .unset, .unset]) rfl ?_
    show Steps p.tables e below (T5.setTop (mkF m 9 #[.val (.long q1), .second, .val (.long q2), .second, .val (.int p3), .val (.ref b4), .unset, .unset, .unset, .unset] [])) _
    refine XS.iload X5.here hx rfl (hb hby at_9) rfl ?_
    show Steps p.tables e below (T5.setTop (mkF m 11 #[.val (.long q1), .second, .val (.long q2), .second, .val (.int p3), .val (.ref b4), .unset, .unset, .unset, .unset] [(.int p3)])) _
    refine XS.iconst X5.here hx rfl (hb hby at_11) ?_
    show Steps p.tables e below (T5.setTop (mkF m 12 #[.val (.long q1), .second, .val (.long q2), .second, .val (.int p3), .val (.ref b4), .unset, .unset, .unset, .unset] [(.int (1 : Int32)), (.int p3)])) _
    refine XS.iand X5.here hx rfl (hb hby at_12) rfl ?_
    show Steps p.tables e below (T5.setTop (mkF m 13 #[.val (.long q1), .second, .val (.long q2), .second, .val (.int p3), .val (.ref b4), .unset, .unset, .unset, .unset] [(.int (p3 &&& (1 : Int32)))])) _
    refine XS.ifNo X5.here hx rfl (hb hby at_13) rfl ((if0 _ _).trans (feq hc13).1) ?_
    show Steps p.tables e below (T5.setTop (mkF m 16 #[.val (.long q1), .second, .val (.long q2), .second, .val (.int p3), .val (.ref b4), .unset, .unset, .unset, .unset] [])) _
    refine XS.iconst X5.here hx rfl (hb hby at_16) ?_
    show Steps p.tables e below (T5.setTop (mkF m 17 #[.val (.long q1), .second, .val (.long q2), .second, .val (.int p3), .val (.ref b4), .unset, .unset, .unset, .unset] [(.int (1 : Int32))])) _
    refine XS.goto X5.here hx rfl (pc0 := 17) (pc' := 21) rfl (hb hby at_17) (by decide) (by decide) ?_
    show Steps p.tables e below (T5.setTop (mkF m 21 #[.val (.long q1), .second, .val (.long q2), .second, .val (.int p3), .val (.ref b4), .unset, .unset, .unset, .unset] [(.int (1 : Int32))])) _
    refine XS.istore X5.here hx rfl (hb hby at_21) rfl (l' := #[.val (.long q1), .second, .val (.long q2), .second, .val (.int p3), .val (.ref b4), .val (.int (1 : Int32)), .unset, .unset, .unset]) rfl ?_
    show Steps p.tables e below (T5.setTop (mkF m 23 #[.val (.long q1), .second, .val (.long q2), .second, .val (.int p3), .val (.ref b4), .val (.int (1 : Int32)), .unset, .unset, .unset] [])) _
    refine XS.iload X5.here hx rfl (hb hby at_23) rfl ?_
    show Steps p.tables e below (T5.setTop (mkF m 25 #[.val (.long q1), .second, .val (.long q2), .second, .val (.int p3), .val (.ref b4), .val (.int (1 : Int32)), .unset, .unset, .unset] [(.int (1 : Int32))])) _
    refine XS.ifNo X5.here hx rfl (hb hby at_25) rfl ((if0 _ _).trans (feq hc25).1) ?_
    show Steps p.tables e below (T5.setTop (mkF m 28 #[.val (.long q1), .second, .val (.long q2), .second, .val (.int p3), .val (.ref b4), .val (.int (1 : Int32)), .unset, .unset, .unset] [])) _
    refine XS.aload X5.here hx rfl (hb hby at_28) rfl rfl ?_
    show Steps p.tables e below (T5.setTop (mkF m 30 #[.val (.long q1), .second, .val (.long q2), .second, .val (.int p3), .val (.ref b4), .val (.int (1 : Int32)), .unset, .unset, .unset] [(.ref b4)])) _
    refine st6.trans ?_
    show Steps p.tables e below (T6.setTop (mkF m 33 #[.val (.long q1), .second, .val (.long q2), .second, .val (.int p3), .val (.ref b4), .val (.int (1 : Int32)), .unset, .unset, .unset] [])) _
    refine XS.aload X6.here hx rfl (hb hby at_33) rfl rfl ?_
    show Steps p.tables e below (T6.setTop (mkF m 35 #[.val (.long q1), .second, .val (.long q2), .second, .val (.int p3), .val (.ref b4), .val (.int (1 : Int32)), .unset, .unset, .unset] [(.ref b4)])) _
    refine XS.lloadN X6.here hx rfl (hb hby at_35) rfl ?_
    show Steps p.tables e below (T6.setTop (mkF m 36 #[.val (.long q1), .second, .val (.long q2), .second, .val (.int p3), .val (.ref b4), .val (.int (1 : Int32)), .unset, .unset, .unset] [(.long q1), (.ref b4)])) _
    refine st7.trans ?_
    show Steps p.tables e below (T7.setTop (mkF m 39 #[.val (.long q1), .second, .val (.long q2), .second, .val (.int p3), .val (.ref b4), .val (.int (1 : Int32)), .unset, .unset, .unset] [])) _
    refine XS.aload X7.here hx rfl (hb hby at_39) rfl rfl ?_
    show Steps p.tables e below (T7.setTop (mkF m 41 #[.val (.long q1), .second, .val (.long q2), .second, .val (.int p3), .val (.ref b4), .val (.int (1 : Int32)), .unset, .unset, .unset] [(.ref b4)])) _
    refine st8.trans ?_
    show Steps p.tables e below (T8.setTop (mkF m 44 #[.val (.long q1), .second, .val (.long q2), .second, .val (.int p3), .val (.ref b4), .val (.int (1 : Int32)), .unset, .unset, .unset] [(.int (1 : Int32))])) _
    refine XS.istore X8.here hx rfl (hb hby at_44) rfl (l' := #[.val (.long q1), .second, .val (.long q2), .second, .val (.int p3), .val (.ref b4), .val (.int (1 : Int32)), .val (.int (1 : Int32)), .unset, .unset]) rfl ?_
    show Steps p.tables e below (T8.setTop (mkF m 46 #[.val (.long q1), .second, .val (.long q2), .second, .val (.int p3), .val (.ref b4), .val (.int (1 : Int32)), .val (.int (1 : Int32)), .unset, .unset] [])) _
    refine XS.aload X8.here hx rfl (hb hby at_46) rfl rfl ?_
    show Steps p.tables e below (T8.setTop (mkF m 48 #[.val (.long q1), .second, .val (.long q2), .second, .val (.int p3), .val (.ref b4), .val (.int (1 : Int32)), .val (.int (1 : Int32)), .unset, .unset] [(.ref b4)])) _
    refine st9.trans ?_
    show Steps p.tables e below (T9.setTop (mkF m 51 #[.val (.long q1), .second, .val (.long q2), .second, .val (.int p3), .val (.ref b4), .val (.int (1 : Int32)), .val (.int (1 : Int32)), .unset, .unset] [(.int ((0 : Int32) + (q1.toInt32)))])) _
    refine XS.istore X9.here hx rfl (hb hby at_51) rfl (l' := #[.val (.long q1), .second, .val (.long q2), .second, .val (.int p3), .val (.ref b4), .val (.int (1 : Int32)), .val (.int (1 : Int32)), .val (.int ((0 : Int32) + (q1.toInt32))), .unset]) rfl ?_
    show Steps p.tables e below (T9.setTop (mkF m 53 #[.val (.long q1), .second, .val (.long q2), .second, .val (.int p3), .val (.ref b4), .val (.int (1 : Int32)), .val (.int (1 : Int32)), .val (.int ((0 : Int32) + (q1.toInt32))), .unset] [])) _
    refine XS.iload X9.here hx rfl (hb hby at_53) rfl ?_
    show Steps p.tables e below (T9.setTop (mkF m 55 #[.val (.long q1), .second, .val (.long q2), .second, .val (.int p3), .val (.ref b4), .val (.int (1 : Int32)), .val (.int (1 : Int32)), .val (.int ((0 : Int32) + (q1.toInt32))), .unset] [(.int (1 : Int32))])) _
    refine XS.iload X9.here hx rfl (hb hby at_55) rfl ?_
    show Steps p.tables e below (T9.setTop (mkF m 57 #[.val (.long q1), .second, .val (.long q2), .second, .val (.int p3), .val (.ref b4), .val (.int (1 : Int32)), .val (.int (1 : Int32)), .val (.int ((0 : Int32) + (q1.toInt32))), .unset] [(.int (1 : Int32)), (.int (1 : Int32))])) _
    refine XS.ifNo X9.here hx rfl (hb hby at_57) rfl ((if0 _ _).trans (feq hc57).1) ?_
    show Steps p.tables e below (T9.setTop (mkF m 60 #[.val (.long q1), .second, .val (.long q2), .second, .val (.int p3), .val (.ref b4), .val (.int (1 : Int32)), .val (.int (1 : Int32)), .val (.int ((0 : Int32) + (q1.toInt32))), .unset] [(.int (1 : Int32))])) _
    refine XS.iconst X9.here hx rfl (hb hby at_60) ?_
    show Steps p.tables e below (T9.setTop (mkF m 61 #[.val (.long q1), .second, .val (.long q2), .second, .val (.int p3), .val (.ref b4), .val (.int (1 : Int32)), .val (.int (1 : Int32)), .val (.int ((0 : Int32) + (q1.toInt32))), .unset] [(.int (1 : Int32)), (.int (1 : Int32))])) _
    refine XS.goto X9.here hx rfl (pc0 := 61) (pc' := 65) rfl (hb hby at_61) (by decide) (by decide) ?_
    show Steps p.tables e below (T9.setTop (mkF m 65 #[.val (.long q1), .second, .val (.long q2), .second, .val (.int p3), .val (.ref b4), .val (.int (1 : Int32)), .val (.int (1 : Int32)), .val (.int ((0 : Int32) + (q1.toInt32))), .unset] [(.int (1 : Int32)), (.int (1 : Int32))])) _
    refine XS.icmpNo X9.here hx rfl (hb hby at_65) rfl (teq (by first | rfl | decide | exact Int32.zero_add _ : (1 : Int32) = (1 : Int32))).2 ?_
    show Steps p.tables e below (T9.setTop (mkF m 68 #[.val (.long q1), .second, .val (.long q2), .second, .val (.int p3), .val (.ref b4), .val (.int (1 : Int32)), .val (.int (1 : Int32)), .val (.int ((0 : Int32) + (q1.toInt32))), .unset] [])) _
    refine XS.iload X9.here hx rfl (hb hby at_68) rfl ?_
    show Steps p.tables e below (T9.setTop (mkF m 70 #[.val (.long q1), .second, .val (.long q2), .second, .val (.int p3), .val (.ref b4), .val (.int (1 : Int32)), .val (.int (1 : Int32)), .val (.int ((0 : Int32) + (q1.toInt32))), .unset] [(.int ((0 : Int32) + (q1.toInt32)))])) _
    refine XS.iload X9.here hx rfl (hb hby at_70) rfl ?_
    show Steps p.tables e below (T9.setTop (mkF m 72 #[.val (.long q1), .second, .val (.long q2), .second, .val (.int p3), .val (.ref b4), .val (.int (1 : Int32)), .val (.int (1 : Int32)), .val (.int ((0 : Int32) + (q1.toInt32))), .unset] [(.int (1 : Int32)), (.int ((0 : Int32) + (q1.toInt32)))])) _
    refine XS.ifNo X9.here hx rfl (hb hby at_72) rfl ((if0 _ _).trans (feq hc72).1) ?_
    show Steps p.tables e below (T9.setTop (mkF m 75 #[.val (.long q1), .second, .val (.long q2), .second, .val (.int p3), .val (.ref b4), .val (.int (1 : Int32)), .val (.int (1 : Int32)), .val (.int ((0 : Int32) + (q1.toInt32))), .unset] [(.int ((0 : Int32) + (q1.toInt32)))])) _
    refine XS.lloadN X9.here hx rfl (hb hby at_75) rfl ?_
    show Steps p.tables e below (T9.setTop (mkF m 76 #[.val (.long q1), .second, .val (.long q2), .second, .val (.int p3), .val (.ref b4), .val (.int (1 : Int32)), .val (.int (1 : Int32)), .val (.int ((0 : Int32) + (q1.toInt32))), .unset] [(.long q1), (.int ((0 : Int32) + (q1.toInt32)))])) _
    refine XS.l2i X9.here hx rfl (hb hby at_76) rfl ?_
    show Steps p.tables e below (T9.setTop (mkF m 77 #[.val (.long q1), .second, .val (.long q2), .second, .val (.int p3), .val (.ref b4), .val (.int (1 : Int32)), .val (.int (1 : Int32)), .val (.int ((0 : Int32) + (q1.toInt32))), .unset] [(.int (q1.toInt32)), (.int ((0 : Int32) + (q1.toInt32)))])) _
    refine XS.goto X9.here hx rfl (pc0 := 77) (pc' := 81) rfl (hb hby at_77) (by decide) (by decide) ?_
    show Steps p.tables e below (T9.setTop (mkF m 81 #[.val (.long q1), .second, .val (.long q2), .second, .val (.int p3), .val (.ref b4), .val (.int (1 : Int32)), .val (.int (1 : Int32)), .val (.int ((0 : Int32) + (q1.toInt32))), .unset] [(.int (q1.toInt32)), (.int ((0 : Int32) + (q1.toInt32)))])) _
    refine XS.icmpNo X9.here hx rfl (hb hby at_81) rfl (teq (by first | rfl | decide | exact Int32.zero_add _ : ((0 : Int32) + (q1.toInt32)) = (q1.toInt32))).2 ?_
    show Steps p.tables e below (T9.setTop (mkF m 84 #[.val (.long q1), .second, .val (.long q2), .second, .val (.int p3), .val (.ref b4), .val (.int (1 : Int32)), .val (.int (1 : Int32)), .val (.int ((0 : Int32) + (q1.toInt32))), .unset] [])) _
    refine XS.iconst X9.here hx rfl (hb hby at_84) ?_
    show Steps p.tables e below (T9.setTop (mkF m 85 #[.val (.long q1), .second, .val (.long q2), .second, .val (.int p3), .val (.ref b4), .val (.int (1 : Int32)), .val (.int (1 : Int32)), .val (.int ((0 : Int32) + (q1.toInt32))), .unset] [(.int (1 : Int32))])) _
    refine XS.goto X9.here hx rfl (pc0 := 85) (pc' := 89) rfl (hb hby at_85) (by decide) (by decide) ?_
    show Steps p.tables e below (T9.setTop (mkF m 89 #[.val (.long q1), .second, .val (.long q2), .second, .val (.int p3), .val (.ref b4), .val (.int (1 : Int32)), .val (.int (1 : Int32)), .val (.int ((0 : Int32) + (q1.toInt32))), .unset] [(.int (1 : Int32))])) _
    refine XS.istore X9.here hx rfl (hb hby at_89) rfl (l' := #[.val (.long q1), .second, .val (.long q2), .second, .val (.int p3), .val (.ref b4), .val (.int (1 : Int32)), .val (.int (1 : Int32)), .val (.int ((0 : Int32) + (q1.toInt32))), .val (.int (1 : Int32))]) rfl ?_
    show Steps p.tables e below (T9.setTop (mkF m 91 #[.val (.long q1), .second, .val (.long q2), .second, .val (.int p3), .val (.ref b4), .val (.int (1 : Int32)), .val (.int (1 : Int32)), .val (.int ((0 : Int32) + (q1.toInt32))), .val (.int (1 : Int32))] [])) _
    refine XS.aload X9.here hx rfl (hb hby at_91) rfl rfl ?_
    show Steps p.tables e below (T9.setTop (mkF m 93 #[.val (.long q1), .second, .val (.long q2), .second, .val (.int p3), .val (.ref b4), .val (.int (1 : Int32)), .val (.int (1 : Int32)), .val (.int ((0 : Int32) + (q1.toInt32))), .val (.int (1 : Int32))] [(.ref b4)])) _
    refine st10.trans ?_
    show Steps p.tables e below (T10.setTop (mkF m 96 #[.val (.long q1), .second, .val (.long q2), .second, .val (.int p3), .val (.ref b4), .val (.int (1 : Int32)), .val (.int (1 : Int32)), .val (.int ((0 : Int32) + (q1.toInt32))), .val (.int (1 : Int32))] [])) _
    refine XS.aload X10.here hx rfl (hb hby at_96) rfl rfl ?_
    show Steps p.tables e below (T10.setTop (mkF m 98 #[.val (.long q1), .second, .val (.long q2), .second, .val (.int p3), .val (.ref b4), .val (.int (1 : Int32)), .val (.int (1 : Int32)), .val (.int ((0 : Int32) + (q1.toInt32))), .val (.int (1 : Int32))] [(.ref b4)])) _
    refine XS.lloadN X10.here hx rfl (hb hby at_98) rfl ?_
    show Steps p.tables e below (T10.setTop (mkF m 99 #[.val (.long q1), .second, .val (.long q2), .second, .val (.int p3), .val (.ref b4), .val (.int (1 : Int32)), .val (.int (1 : Int32)), .val (.int ((0 : Int32) + (q1.toInt32))), .val (.int (1 : Int32))] [(.long q2), (.ref b4)])) _
    refine st11.trans ?_
    show Steps p.tables e below (T11.setTop (mkF m 102 #[.val (.long q1), .second, .val (.long q2), .second, .val (.int p3), .val (.ref b4), .val (.int (1 : Int32)), .val (.int (1 : Int32)), .val (.int ((0 : Int32) + (q1.toInt32))), .val (.int (1 : Int32))] [])) _
    refine XS.iload X11.here hx rfl (hb hby at_102) rfl ?_
    show Steps p.tables e below (T11.setTop (mkF m 104 #[.val (.long q1), .second, .val (.long q2), .second, .val (.int p3), .val (.ref b4), .val (.int (1 : Int32)), .val (.int (1 : Int32)), .val (.int ((0 : Int32) + (q1.toInt32))), .val (.int (1 : Int32))] [(.int (1 : Int32))])) _
    refine XS.ifNo X11.here hx rfl (hb hby at_104) rfl ((if0 _ _).trans (feq hc104).1) ?_
    show Steps p.tables e below (T11.setTop (mkF m 107 #[.val (.long q1), .second, .val (.long q2), .second, .val (.int p3), .val (.ref b4), .val (.int (1 : Int32)), .val (.int (1 : Int32)), .val (.int ((0 : Int32) + (q1.toInt32))), .val (.int (1 : Int32))] [])) _
    refine XS.aload X11.here hx rfl (hb hby at_107) rfl rfl ?_
    show Steps p.tables e below (T11.setTop (mkF m 109 #[.val (.long q1), .second, .val (.long q2), .second, .val (.int p3), .val (.ref b4), .val (.int (1 : Int32)), .val (.int (1 : Int32)), .val (.int ((0 : Int32) + (q1.toInt32))), .val (.int (1 : Int32))] [(.ref b4)])) _
    refine st12.trans ?_
    show Steps p.tables e below (T12.setTop (mkF m 112 #[.val (.long q1), .second, .val (.long q2), .second, .val (.int p3), .val (.ref b4), .val (.int (1 : Int32)), .val (.int (1 : Int32)), .val (.int ((0 : Int32) + (q1.toInt32))), .val (.int (1 : Int32))] [(.int (2 : Int32))])) _
    refine XS.iload X12.here hx rfl (hb hby at_112) rfl ?_
    show Steps p.tables e below (T12.setTop (mkF m 114 #[.val (.long q1), .second, .val (.long q2), .second, .val (.int p3), .val (.ref b4), .val (.int (1 : Int32)), .val (.int (1 : Int32)), .val (.int ((0 : Int32) + (q1.toInt32))), .val (.int (1 : Int32))] [(.int (1 : Int32)), (.int (2 : Int32))])) _
    refine XS.iconst X12.here hx rfl (hb hby at_114) ?_
    show Steps p.tables e below (T12.setTop (mkF m 115 #[.val (.long q1), .second, .val (.long q2), .second, .val (.int p3), .val (.ref b4), .val (.int (1 : Int32)), .val (.int (1 : Int32)), .val (.int ((0 : Int32) + (q1.toInt32))), .val (.int (1 : Int32))] [(.int (1 : Int32)), (.int (1 : Int32)), (.int (2 : Int32))])) _
    refine XS.iadd X12.here hx rfl (hb hby at_115) rfl ?_
    show Steps p.tables e below (T12.setTop (mkF m 116 #[.val (.long q1), .second, .val (.long q2), .second, .val (.int p3), .val (.ref b4), .val (.int (1 : Int32)), .val (.int (1 : Int32)), .val (.int ((0 : Int32) + (q1.toInt32))), .val (.int (1 : Int32))] [(.int ((1 : Int32) + (1 : Int32))), (.int (2 : Int32))])) _
    refine XS.icmpNo X12.here hx rfl (hb hby at_116) rfl (teq (by first | rfl | decide | exact Int32.zero_add _ : (2 : Int32) = ((1 : Int32) + (1 : Int32)))).2 ?_
    show Steps p.tables e below (T12.setTop (mkF m 119 #[.val (.long q1), .second, .val (.long q2), .second, .val (.int p3), .val (.ref b4), .val (.int (1 : Int32)), .val (.int (1 : Int32)), .val (.int ((0 : Int32) + (q1.toInt32))), .val (.int (1 : Int32))] [])) _
    refine XS.aload X12.here hx rfl (hb hby at_119) rfl rfl ?_
    show Steps p.tables e below (T12.setTop (mkF m 121 #[.val (.long q1), .second, .val (.long q2), .second, .val (.int p3), .val (.ref b4), .val (.int (1 : Int32)), .val (.int (1 : Int32)), .val (.int ((0 : Int32) + (q1.toInt32))), .val (.int (1 : Int32))] [(.ref b4)])) _
    refine st13.trans ?_
    show Steps p.tables e below (T13.setTop (mkF m 124 #[.val (.long q1), .second, .val (.long q2), .second, .val (.int p3), .val (.ref b4), .val (.int (1 : Int32)), .val (.int (1 : Int32)), .val (.int ((0 : Int32) + (q1.toInt32))), .val (.int (1 : Int32))] [(.int (((0 : Int32) + (q1.toInt32)) + (q2.toInt32)))])) _
    refine XS.iload X13.here hx rfl (hb hby at_124) rfl ?_
    show Steps p.tables e below (T13.setTop (mkF m 126 #[.val (.long q1), .second, .val (.long q2), .second, .val (.int p3), .val (.ref b4), .val (.int (1 : Int32)), .val (.int (1 : Int32)), .val (.int ((0 : Int32) + (q1.toInt32))), .val (.int (1 : Int32))] [(.int ((0 : Int32) + (q1.toInt32))), (.int (((0 : Int32) + (q1.toInt32)) + (q2.toInt32)))])) _
    refine XS.lloadN X13.here hx rfl (hb hby at_126) rfl ?_
    show Steps p.tables e below (T13.setTop (mkF m 127 #[.val (.long q1), .second, .val (.long q2), .second, .val (.int p3), .val (.ref b4), .val (.int (1 : Int32)), .val (.int (1 : Int32)), .val (.int ((0 : Int32) + (q1.toInt32))), .val (.int (1 : Int32))] [(.long q2), (.int ((0 : Int32) + (q1.toInt32))), (.int (((0 : Int32) + (q1.toInt32)) + (q2.toInt32)))])) _
    refine XS.l2i X13.here hx rfl (hb hby at_127) rfl ?_
    show Steps p.tables e below (T13.setTop (mkF m 128 #[.val (.long q1), .second, .val (.long q2), .second, .val (.int p3), .val (.ref b4), .val (.int (1 : Int32)), .val (.int (1 : Int32)), .val (.int ((0 : Int32) + (q1.toInt32))), .val (.int (1 : Int32))] [(.int (q2.toInt32)), (.int ((0 : Int32) + (q1.toInt32))), (.int (((0 : Int32) + (q1.toInt32)) + (q2.toInt32)))])) _
    refine XS.iadd X13.here hx rfl (hb hby at_128) rfl ?_
    show Steps p.tables e below (T13.setTop (mkF m 129 #[.val (.long q1), .second, .val (.long q2), .second, .val (.int p3), .val (.ref b4), .val (.int (1 : Int32)), .val (.int (1 : Int32)), .val (.int ((0 : Int32) + (q1.toInt32))), .val (.int (1 : Int32))] [(.int (((0 : Int32) + (q1.toInt32)) + (q2.toInt32))), (.int (((0 : Int32) + (q1.toInt32)) + (q2.toInt32)))])) _
    refine XS.icmpNo X13.here hx rfl (hb hby at_129) rfl (teq (by first | rfl | decide | exact Int32.zero_add _ : (((0 : Int32) + (q1.toInt32)) + (q2.toInt32)) = (((0 : Int32) + (q1.toInt32)) + (q2.toInt32)))).2 ?_
    show Steps p.tables e below (T13.setTop (mkF m 132 #[.val (.long q1), .second, .val (.long q2), .second, .val (.int p3), .val (.ref b4), .val (.int (1 : Int32)), .val (.int (1 : Int32)), .val (.int ((0 : Int32) + (q1.toInt32))), .val (.int (1 : Int32))] [])) _
    refine XS.iconst X13.here hx rfl (hb hby at_132) ?_
    show Steps p.tables e below (T13.setTop (mkF m 133 #[.val (.long q1), .second, .val (.long q2), .second, .val (.int p3), .val (.ref b4), .val (.int (1 : Int32)), .val (.int (1 : Int32)), .val (.int ((0 : Int32) + (q1.toInt32))), .val (.int (1 : Int32))] [(.int (1 : Int32))])) _
    refine XS.goto X13.here hx rfl (pc0 := 133) (pc' := 137) rfl (hb hby at_133) (by decide) (by decide) ?_
    show Steps p.tables e below (T13.setTop (mkF m 137 #[.val (.long q1), .second, .val (.long q2), .second, .val (.int p3), .val (.ref b4), .val (.int (1 : Int32)), .val (.int (1 : Int32)), .val (.int ((0 : Int32) + (q1.toInt32))), .val (.int (1 : Int32))] [(.int (1 : Int32))])) _
    refine XS.istore X13.here hx rfl (hb hby at_137) rfl (l' := #[.val (.long q1), .second, .val (.long q2), .second, .val (.int p3), .val (.ref b4), .val (.int (1 : Int32)), .val (.int (1 : Int32)), .val (.int ((0 : Int32) + (q1.toInt32))), .val (.int (1 : Int32))]) rfl ?_
    show Steps p.tables e below (T13.setTop (mkF m 139 #[.val (.long q1), .second, .val (.long q2), .second, .val (.int p3), .val (.ref b4), .val (.int (1 : Int32)), .val (.int (1 : Int32)), .val (.int ((0 : Int32) + (q1.toInt32))), .val (.int (1 : Int32))] [])) _
    refine XS.aload X13.here hx rfl (hb hby at_139) rfl rfl ?_
    show Steps p.tables e below (T13.setTop (mkF m 141 #[.val (.long q1), .second, .val (.long q2), .second, .val (.int p3), .val (.ref b4), .val (.int (1 : Int32)), .val (.int (1 : Int32)), .val (.int ((0 : Int32) + (q1.toInt32))), .val (.int (1 : Int32))] [(.ref b4)])) _
    refine st14.trans ?_
    show Steps p.tables e below (T14.setTop (mkF m 144 #[.val (.long q1), .second, .val (.long q2), .second, .val (.int p3), .val (.ref b4), .val (.int (1 : Int32)), .val (.int (1 : Int32)), .val (.int ((0 : Int32) + (q1.toInt32))), .val (.int (1 : Int32))] [])) _
    refine XS.iload X14.here hx rfl (hb hby at_144) rfl ?_
    show Steps p.tables e below (T14.setTop (mkF m 146 #[.val (.long q1), .second, .val (.long q2), .second, .val (.int p3), .val (.ref b4), .val (.int (1 : Int32)), .val (.int (1 : Int32)), .val (.int ((0 : Int32) + (q1.toInt32))), .val (.int (1 : Int32))] [(.int (1 : Int32))])) _
    refine XS.ifNo X14.here hx rfl (hb hby at_146) rfl ((if0 _ _).trans (feq hc146).1) ?_
    show Steps p.tables e below (T14.setTop (mkF m 149 #[.val (.long q1), .second, .val (.long q2), .second, .val (.int p3), .val (.ref b4), .val (.int (1 : Int32)), .val (.int (1 : Int32)), .val (.int ((0 : Int32) + (q1.toInt32))), .val (.int (1 : Int32))] [])) _
    refine XS.aload X14.here hx rfl (hb hby at_149) rfl rfl ?_
    show Steps p.tables e below (T14.setTop (mkF m 151 #[.val (.long q1), .second, .val (.long q2), .second, .val (.int p3), .val (.ref b4), .val (.int (1 : Int32)), .val (.int (1 : Int32)), .val (.int ((0 : Int32) + (q1.toInt32))), .val (.int (1 : Int32))] [(.ref b4)])) _
    refine st15.trans ?_
    show Steps p.tables e below (T15.setTop (mkF m 154 #[.val (.long q1), .second, .val (.long q2), .second, .val (.int p3), .val (.ref b4), .val (.int (1 : Int32)), .val (.int (1 : Int32)), .val (.int ((0 : Int32) + (q1.toInt32))), .val (.int (1 : Int32))] [(.int (1 : Int32))])) _
    refine XS.iload X15.here hx rfl (hb hby at_154) rfl ?_
    show Steps p.tables e below (T15.setTop (mkF m 156 #[.val (.long q1), .second, .val (.long q2), .second, .val (.int p3), .val (.ref b4), .val (.int (1 : Int32)), .val (.int (1 : Int32)), .val (.int ((0 : Int32) + (q1.toInt32))), .val (.int (1 : Int32))] [(.int (1 : Int32)), (.int (1 : Int32))])) _
    refine XS.icmpNo X15.here hx rfl (hb hby at_156) rfl (teq (by first | rfl | decide | exact Int32.zero_add _ : (1 : Int32) = (1 : Int32))).2 ?_
    show Steps p.tables e below (T15.setTop (mkF m 159 #[.val (.long q1), .second, .val (.long q2), .second, .val (.int p3), .val (.ref b4), .val (.int (1 : Int32)), .val (.int (1 : Int32)), .val (.int ((0 : Int32) + (q1.toInt32))), .val (.int (1 : Int32))] [])) _
    refine XS.aload X15.here hx rfl (hb hby at_159) rfl rfl ?_
    show Steps p.tables e below (T15.setTop (mkF m 161 #[.val (.long q1), .second, .val (.long q2), .second, .val (.int p3), .val (.ref b4), .val (.int (1 : Int32)), .val (.int (1 : Int32)), .val (.int ((0 : Int32) + (q1.toInt32))), .val (.int (1 : Int32))] [(.ref b4)])) _
    refine st16.trans ?_
    show Steps p.tables e below (T16.setTop (mkF m 164 #[.val (.long q1), .second, .val (.long q2), .second, .val (.int p3), .val (.ref b4), .val (.int (1 : Int32)), .val (.int (1 : Int32)), .val (.int ((0 : Int32) + (q1.toInt32))), .val (.int (1 : Int32))] [(.int ((0 : Int32) + (q1.toInt32)))])) _
    refine XS.iload X16.here hx rfl (hb hby at_164) rfl ?_
    show Steps p.tables e below (T16.setTop (mkF m 166 #[.val (.long q1), .second, .val (.long q2), .second, .val (.int p3), .val (.ref b4), .val (.int (1 : Int32)), .val (.int (1 : Int32)), .val (.int ((0 : Int32) + (q1.toInt32))), .val (.int (1 : Int32))] [(.int ((0 : Int32) + (q1.toInt32))), (.int ((0 : Int32) + (q1.toInt32)))])) _
    refine XS.icmpNo X16.here hx rfl (hb hby at_166) rfl (teq (by first | rfl | decide | exact Int32.zero_add _ : ((0 : Int32) + (q1.toInt32)) = ((0 : Int32) + (q1.toInt32)))).2 ?_
    show Steps p.tables e below (T16.setTop (mkF m 169 #[.val (.long q1), .second, .val (.long q2), .second, .val (.int p3), .val (.ref b4), .val (.int (1 : Int32)), .val (.int (1 : Int32)), .val (.int ((0 : Int32) + (q1.toInt32))), .val (.int (1 : Int32))] [])) _
    refine XS.iconst X16.here hx rfl (hb hby at_169) ?_
    show Steps p.tables e below (T16.setTop (mkF m 170 #[.val (.long q1), .second, .val (.long q2), .second, .val (.int p3), .val (.ref b4), .val (.int (1 : Int32)), .val (.int (1 : Int32)), .val (.int ((0 : Int32) + (q1.toInt32))), .val (.int (1 : Int32))] [(.int (1 : Int32))])) _
    refine XS.goto X16.here hx rfl (pc0 := 170) (pc' := 174) rfl (hb hby at_170) (by decide) (by decide) ?_
    show Steps p.tables e below (T16.setTop (mkF m 174 #[.val (.long q1), .second, .val (.long q2), .second, .val (.int p3), .val (.ref b4), .val (.int (1 : Int32)), .val (.int (1 : Int32)), .val (.int ((0 : Int32) + (q1.toInt32))), .val (.int (1 : Int32))] [(.int (1 : Int32))])) _
    refine XS.istore X16.here hx rfl (hb hby at_174) rfl (l' := #[.val (.long q1), .second, .val (.long q2), .second, .val (.int p3), .val (.ref b4), .val (.int (1 : Int32)), .val (.int (1 : Int32)), .val (.int ((0 : Int32) + (q1.toInt32))), .val (.int (1 : Int32))]) rfl ?_
    show Steps p.tables e below (T16.setTop (mkF m 176 #[.val (.long q1), .second, .val (.long q2), .second, .val (.int p3), .val (.ref b4), .val (.int (1 : Int32)), .val (.int (1 : Int32)), .val (.int ((0 : Int32) + (q1.toInt32))), .val (.int (1 : Int32))] [])) _
    refine XS.iload X16.here hx rfl (hb hby at_176) rfl ?_
    show Steps p.tables e below (T16.setTop (mkF m 178 #[.val (.long q1), .second, .val (.long q2), .second, .val (.int p3), .val (.ref b4), .val (.int (1 : Int32)), .val (.int (1 : Int32)), .val (.int ((0 : Int32) + (q1.toInt32))), .val (.int (1 : Int32))] [(.int (1 : Int32))])) _
    exact retN X16 hx (t := .boolean) Bd.returns (by simp) (hb hby at_178) hr
  · show Q0_o Z h0 n0 _ _ _
    exact ⟨rfl, N16⟩
set_option maxRecDepth 65536 in
set_option maxHeartbeats 40000000 in
theorem comes_1 {Post : Tables → Env → Array Value → State → Outcome → State → Prop} (hpost : ∀ tb e args s v u, (limb_1_1.after args s (.returned v) u = true ∧ limb_1_2.after args s (.returned v) u = true ∧ True) → FrameEnd s (.returned v) u (Jvm.fieldLocs frame_1_writes args s ++ Jvm.arrayLocs frame_1_arrays args s ++ Jvm.staticLocs frame_1_statics s) 24 2368 → Post tb e args s (.returned v) u) :
    ArmFor flags0 classFile x code maxLocals ret World_1 tables_1 room_1 Calls_1 rest_1 Pre_1 Post := by
  intro l hfl _ _ p e ha hc hk s m args below hf hA hF happ hP
  obtain ⟨hcalls, hrest, hpre⟩ := hP
  obtain ⟨-, -, -, hnamed, -, -, -, hat⟩ := (Spec.applies_iff hf).mp happ
  obtain ⟨hg, hn⟩ := and_e (Cond.before_iff.mp (show (Jvm.Cond.and given_1 narrow_1).before args s = true from hpre))
  obtain ⟨g17, g18⟩ := and_e hg
  obtain ⟨g19, g20⟩ := and_e g18
  obtain ⟨g21, g22⟩ := and_e g20
  obtain ⟨w0, w1, w2, rfl⟩ : ∃ w0 w1 w2 : Value, args = #[w0, w1, w2] := by
    have hs : args.size = 3 := by simpa [Cond.value, given_1] using g17
    obtain ⟨L⟩ := args
    match L, hs with
    | [w0, w1, w2], _ => exact ⟨w0, w1, w2, rfl⟩
  have hw := fun d (hd : d ∈ tables_1) => atoms_spec (ws := Jvm.Cond.code x code maxLocals ret :: tables_1) hat d (List.mem_cons_of_mem _ hd)
  have hfit : Fit s := fun {y c} hc i hi => by
    obtain ⟨ha, rfl⟩ := Array.getElem?_eq_some_iff.mp hc
    have q := List.all_eq_true.mp ((Array.all_eq_true_iff_forall_mem.mp hF) _ (Array.getElem_mem ha)) i (List.mem_range.mpr hi)
    simpa [Array.getElem?_eq_getElem hi] using q
  -- the named sets: hsets indexes jdkStatics_1 (Statement.lean): (hsets _ (List.mem_of_getElem? (i := n) rfl)) is its n-th word, before the call
  obtain ⟨hsets, hown0⟩ := atoms_of _ (rest_1_c_eq ▸ (show rest_1_c.before _ s = true from hrest))
  have hr0 := Cond.before_iff.mp hown0
  obtain ⟨i0, ei0⟩ := isL_v g19
  obtain rfl : w0 = (.long i0) := Option.some.inj ei0
  obtain ⟨i1, ei1⟩ := isL_v g21
  obtain rfl : w1 = (.long i1) := Option.some.inj ei1
  obtain ⟨i2, ei2⟩ := is_v g22
  obtain rfl : w2 = (.int i2) := Option.some.inj ei2
  obtain ⟨w4, ew⟩ := is_v (Cond.before_iff.mp (hsets _ (List.mem_of_getElem? (i := 1) rfl)))
  have S_C := Sta.start ew (Or.inl (hsets _ (List.mem_of_getElem? (i := 0) rfl)))
  have hcs : ¬ (w4 = (0 : Int32)) := gotF (Cond.eq_ints ew (Term.int_eval _)) (not_v (Cond.before_iff.mp (hsets _ (List.mem_of_getElem? (i := 2) rfl))))
  by_cases k0 : (i2 &&& (1 : Int32)) = (0 : Int32)
  · obtain ⟨n, o, h1, h2, h3, _, L, rfl, ⟨rfl, N⟩, hq⟩ := rm0_z l s _ hw tables_1 i0 i1 i2 w4 s.heap s.heap.size (Nat.le_refl _) S_C hcs k0 (by decide) (by decide) p e ha hc hk s m _ below hf ((Spec.applies_iff_loose hf).mp happ).1 ⟨rfl, State.Warmed39.refl s, rfl⟩ trivial
    refine ⟨n, _, h1, h2, h3, hpost _ _ _ _ _ _ ⟨Cond.after_iff.mpr rfl, Cond.after_iff.mpr (eq_i res_at (Term.int_eval (1)) rfl), trivial⟩ ⟨hq.1, hq.2.1, (hq.2.2.sift fun y hy => Or.inr (N y hy)).mono (by decide) (by decide)⟩⟩
  · obtain ⟨n, o, h1, h2, h3, _, L, rfl, ⟨rfl, N⟩, hq⟩ := rm0_o l s _ hw tables_1 i0 i1 i2 w4 s.heap s.heap.size (Nat.le_refl _) S_C hcs k0 (by decide) (by decide) (by decide) (by decide) (by decide) p e ha hc hk s m _ below hf ((Spec.applies_iff_loose hf).mp happ).1 ⟨rfl, State.Warmed39.refl s, rfl⟩ trivial
    refine ⟨n, _, h1, h2, h3, hpost _ _ _ _ _ _ ⟨Cond.after_iff.mpr rfl, Cond.after_iff.mpr (eq_i res_at (Term.int_eval (1)) rfl), trivial⟩ ⟨hq.1, hq.2.1, (hq.2.2.sift fun y hy => Or.inr (N y hy)).mono (by decide) (by decide)⟩⟩
theorem main_1_1 : Claimed_1_1 := comes_1 fun _ _ _ _ _ _ h hF => ⟨h.1, hF⟩
theorem main_1_2 : Claimed_1_2 := comes_1 fun _ _ _ _ _ _ h hF => ⟨h.2.1, hF⟩
end Jvm.Pilot.@@N@@
namespace Jvm.Pilot.@@N@@
open Jvm Jvm.ClassFile Sem Op Lib Jvm.Free Jvm.Stand Jvm.Pilot.@@N@@.Jvm.D
/-! MADE BY PROGRAM (witnessworld.py) out of the Statement's table words and the real class files: 22 classes; the members and pool entries that the words name. The judged class is class 1, her method 1. -/
namespace start1
open Jvm.ClassFile
def u (s : String) : CpInfo := .utf8 (stringToUtf16 s)
/-- a pool by its gaps: so many unusable entries, then the entry; so many at the end -/
def gap : Nat → List CpInfo → List CpInfo
  | 0, r => r
  | n + 1, r => .unusable :: gap n r
def poolList (es : List (Nat × CpInfo)) (last : Nat) : List CpInfo := es.foldr (fun e r => gap e.1 (e.2 :: r)) (gap last [])
def pool (es : List (Nat × CpInfo)) (last : Nat) : Array CpInfo := ⟨poolList es last⟩
def fileOf (pool : Array CpInfo) (this : Nat) (attrs : Array Attribute := #[]) (ms : Array MethodInfo := #[]) (fl : Nat := 33) (sup : Nat := 0) (ifs : Array Nat := #[]) (fds : Array FieldInfo := #[]) : ClassFile where
  minorVersion := 0
  majorVersion := 65
  constantPool := pool
  accessFlags := fl
  thisClass := this
  superClass := sup
  interfaces := ifs
  fields := fds
  methods := ms
  attributes := attrs
def plain (name : String) (sup : Option ClassId) : Class where
  name := name
  kind := .ordinary
  loader := none
  accessFlags := 33
  super := sup
  interfaces := #[]
  cf := none
  fields := #[]
  methods := #[]
  instanceTypes := #[]
  staticTypes := #[]
  resolved := #[]
  callSites := []
  init := .initialized
  statics := none
  mirror := none

def pool0 : Array CpInfo := pool [(5, u "<init>"), (0, u "()V"), (1, .class_ 10), (1, u "java/lang/Object")] 113

def k0c0 : Code := { maxStack := 0, maxLocals := 1, code := object_method_1_code, exceptionTable := #[], attributes := #[] }
def k0m0 : Method := { name := "<init>", desc := "()V", sig := { parameters := [], returnType := none }, accessFlags := 1, code := some k0c0 }
/-- java/lang/Object -/
def k0 : Class := { plain "java/lang/Object" none with
  accessFlags := 33
  interfaces := #[]
  cf := some (fileOf pool0 8 #[] #[{ accessFlags := 1, nameIndex := 5, descriptorIndex := 6, attributes := #[] }] 33 0 #[] #[])
  fields := #[]
  methods := #[k0m0]
  instanceTypes := #[]
  staticTypes := #[]
  resolved := Array.replicate 124 none
  statics := none }

def pool1 : Array CpInfo := pool [(2, .class_ 4), (0, .nameAndType 5 6), (0, u "java/lang/Object"), (0, u "<init>"), (0, u "()V"), (0, .class_ 8), (0, u "org/codeweft/fhir/OpenTags"), (0, .methodref 7 3), (0, .methodref 7 11), (0, .nameAndType 12 6), (0, u "begin"), (0, .methodref 7 14), (0, .nameAndType 15 16), (0, u "open"), (0, u "(J)V"), (0, .methodref 7 18), (0, .nameAndType 19 20), (0, u "count"), (0, u "()I"), (0, .methodref 7 22), (0, .nameAndType 23 20), (0, u "held"), (0, .methodref 7 25), (0, .nameAndType 26 6), (0, u "close"), (0, .class_ 28), (0, u "org/codeweft/fhir/OpenTagsOpenPinLaw"), (2, u "law"), (0, u "(JJI)Z")] 3

def k1m0 : Method := { name := "<init>", desc := "()V", sig := { parameters := [], returnType := none }, accessFlags := 1, code := none }
def k1c1 : Code := { maxStack := 4, maxLocals := 10, code := code, exceptionTable := #[], attributes := #[] }
def k1m1 : Method := { name := "law", desc := "(JJI)Z", sig := { parameters := [.long, .long, .int], returnType := some .boolean }, accessFlags := 9, code := some k1c1 }
/-- org/codeweft/fhir/OpenTagsOpenPinLaw -/
def k1 : Class := { plain "org/codeweft/fhir/OpenTagsOpenPinLaw" (some 0) with
  accessFlags := 49
  interfaces := #[]
  cf := some (fileOf pool1 27 #[] #[{ accessFlags := 1, nameIndex := 5, descriptorIndex := 6, attributes := #[] }, { accessFlags := 9, nameIndex := 31, descriptorIndex := 32, attributes := #[] }] 49 2 #[] #[])
  fields := #[]
  methods := #[k1m0, k1m1]
  instanceTypes := #[]
  staticTypes := #[]
  resolved := Array.replicate 36 none
  statics := none }

def pool2 : Array CpInfo := pool [(1, .methodref 2 3), (0, .class_ 4), (0, .nameAndType 5 6), (0, u "java/lang/Object"), (0, u "<init>"), (0, u "()V"), (0, .class_ 8), (0, u "java/lang/StringBuilder"), (0, .methodref 7 3), (0, .fieldref 11 12), (0, .class_ 13), (0, .nameAndType 14 15), (0, u "org/codeweft/fhir/OpenTags"), (0, u "declarations"), (0, u "Ljava/lang/StringBuilder;"), (0, .fieldref 11 17), (0, .nameAndType 18 19), (0, u "names"), (0, u "[C"), (0, .fieldref 11 21), (0, .nameAndType 22 23), (0, u "marks"), (0, u "[I"), (0, .fieldref 11 25), (0, .nameAndType 26 27), (0, u "count"), (0, u "I"), (0, .fieldref 11 29), (0, .nameAndType 30 27), (0, u "held"), (6, .fieldref 11 38), (0, .nameAndType 39 27), (0, u "namesEnd"), (0, .methodref 7 41), (0, .nameAndType 42 43), (0, u "length"), (0, u "()I"), (3, u "(I)V"), (12, .methodref 11 61), (0, .nameAndType 62 47), (0, u "truncate"), (33, u "begin"), (5, u "open"), (0, u "(J)V"), (1, u "close")] 5

def k2c0 : Code := { maxStack := 3, maxLocals := 1, code := prog_141_method_1_code, exceptionTable := #[], attributes := #[] }
def k2m0 : Method := { name := "<init>", desc := "()V", sig := { parameters := [], returnType := none }, accessFlags := 0, code := some k2c0 }
def k2c1 : Code := { maxStack := 1, maxLocals := 1, code := prog_141_method_2_code, exceptionTable := #[], attributes := #[] }
def k2m1 : Method := { name := "count", desc := "()I", sig := { parameters := [], returnType := some .int }, accessFlags := 0, code := some k2c1 }
def k2c2 : Code := { maxStack := 1, maxLocals := 1, code := prog_141_method_3_code, exceptionTable := #[], attributes := #[] }
def k2m2 : Method := { name := "held", desc := "()I", sig := { parameters := [], returnType := some .int }, accessFlags := 0, code := some k2c2 }
def k2c3 : Code := { maxStack := 4, maxLocals := 1, code := prog_141_method_4_code, exceptionTable := #[], attributes := #[] }
def k2m3 : Method := { name := "begin", desc := "()V", sig := { parameters := [], returnType := none }, accessFlags := 0, code := some k2c3 }
def k2c4 : Code := { maxStack := 4, maxLocals := 3, code := prog_141_method_7_code, exceptionTable := #[], attributes := #[] }
def k2m4 : Method := { name := "open", desc := "(J)V", sig := { parameters := [.long], returnType := none }, accessFlags := 0, code := some k2c4 }
def k2c5 : Code := { maxStack := 3, maxLocals := 1, code := prog_141_method_9_code, exceptionTable := #[], attributes := #[] }
def k2m5 : Method := { name := "close", desc := "()V", sig := { parameters := [], returnType := none }, accessFlags := 0, code := some k2c5 }
def k2c6 : Code := { maxStack := 4, maxLocals := 2, code := prog_141_method_12_code, exceptionTable := #[], attributes := #[] }
def k2m6 : Method := { name := "truncate", desc := "(I)V", sig := { parameters := [.int], returnType := none }, accessFlags := 2, code := some k2c6 }
/-- org/codeweft/fhir/OpenTags -/
def k2 : Class := { plain "org/codeweft/fhir/OpenTags" (some 0) with
  accessFlags := 48
  interfaces := #[]
  cf := some (fileOf pool2 11 #[] #[{ accessFlags := 0, nameIndex := 5, descriptorIndex := 6, attributes := #[] }, { accessFlags := 0, nameIndex := 26, descriptorIndex := 43, attributes := #[] }, { accessFlags := 0, nameIndex := 30, descriptorIndex := 43, attributes := #[] }, { accessFlags := 0, nameIndex := 96, descriptorIndex := 6, attributes := #[] }, { accessFlags := 0, nameIndex := 102, descriptorIndex := 103, attributes := #[] }, { accessFlags := 0, nameIndex := 105, descriptorIndex := 6, attributes := #[] }, { accessFlags := 2, nameIndex := 62, descriptorIndex := 47, attributes := #[] }] 48 2 #[] #[{ accessFlags := 16, nameIndex := 14, descriptorIndex := 15, attributes := #[] }, { accessFlags := 2, nameIndex := 18, descriptorIndex := 19, attributes := #[] }, { accessFlags := 2, nameIndex := 39, descriptorIndex := 27, attributes := #[] }, { accessFlags := 2, nameIndex := 22, descriptorIndex := 23, attributes := #[] }, { accessFlags := 2, nameIndex := 26, descriptorIndex := 27, attributes := #[] }, { accessFlags := 2, nameIndex := 30, descriptorIndex := 27, attributes := #[] }])
  fields := #[{ name := "declarations", type := (.object "java/lang/StringBuilder"), accessFlags := 16, slot := 0, constantValue := 0 }, { name := "names", type := (.array .char), accessFlags := 2, slot := 1, constantValue := 0 }, { name := "namesEnd", type := .int, accessFlags := 2, slot := 2, constantValue := 0 }, { name := "marks", type := (.array .int), accessFlags := 2, slot := 3, constantValue := 0 }, { name := "count", type := .int, accessFlags := 2, slot := 4, constantValue := 0 }, { name := "held", type := .int, accessFlags := 2, slot := 5, constantValue := 0 }]
  methods := #[k2m0, k2m1, k2m2, k2m3, k2m4, k2m5, k2m6]
  instanceTypes := #[(.object "java/lang/StringBuilder"), (.array .char), .int, (.array .int), .int, .int]
  staticTypes := #[]
  resolved := Array.replicate 111 none
  statics := none }

def pool3 : Array CpInfo := pool [(1, .class_ 2), (0, u "java/lang/Appendable"), (0, .class_ 4), (0, u "java/lang/Object")] 9

/-- java/lang/Appendable -/
def k3 : Class := { plain "java/lang/Appendable" (some 0) with
  accessFlags := 1537
  interfaces := #[]
  cf := some (fileOf pool3 1 #[] #[] 1537 3 #[] #[])
  fields := #[]
  methods := #[]
  instanceTypes := #[]
  staticTypes := #[]
  resolved := Array.replicate 14 none
  statics := none }

def pool4 : Array CpInfo := pool [(2, .class_ 4), (1, u "java/lang/CharSequence"), (42, .class_ 48), (0, u "java/lang/CharSequence$1CodePointIterator"), (10, .class_ 60), (0, u "java/lang/CharSequence$1CharIterator"), (5, .class_ 67), (0, u "java/lang/Object")] 63

/-- java/lang/CharSequence -/
def k4 : Class := { plain "java/lang/CharSequence" (some 0) with
  accessFlags := 1537
  interfaces := #[]
  cf := some (fileOf pool4 2 #[.nestMembers #[47, 59]] #[] 1537 66 #[] #[])
  fields := #[]
  methods := #[]
  instanceTypes := #[]
  staticTypes := #[]
  resolved := Array.replicate 131 none
  statics := none }

def pool5 : Array CpInfo := pool [(1, .class_ 2), (0, u "java/lang/String"), (0, .methodref 4 5), (0, .class_ 6), (0, .nameAndType 7 8), (0, u "java/lang/Object"), (0, u "<init>"), (0, u "()V"), (1, .class_ 12), (1, u "java/lang/AbstractStringBuilder"), (0, u "EMPTYVALUE"), (0, u "[B"), (0, .fieldref 10 16), (0, .nameAndType 17 14), (0, u "value"), (0, .fieldref 1 19), (0, .nameAndType 20 21), (0, u "COMPACT_STRINGS"), (0, u "Z"), (0, .fieldref 10 23), (0, .nameAndType 24 25), (0, u "coder"), (0, u "B"), (8, u "length"), (0, u "()I"), (12, .class_ 49), (0, u "java/lang/CharSequence"), (25, u "maybeLatin1"), (3, .fieldref 10 80), (0, .nameAndType 81 82), (0, u "count"), (0, u "I"), (20, u "(I)V"), (340, .class_ 445), (0, u "java/lang/Appendable")] 163

def k5m0 : Method := { name := "<init>", desc := "()V", sig := { parameters := [], returnType := none }, accessFlags := 0, code := none }
def k5c1 : Code := { maxStack := 2, maxLocals := 2, code := jdk_68_method_2_code, exceptionTable := #[], attributes := #[] }
def k5m1 : Method := { name := "<init>", desc := "(I)V", sig := { parameters := [.int], returnType := none }, accessFlags := 0, code := some k5c1 }
def k5c2 : Code := { maxStack := 1, maxLocals := 1, code := jdk_68_method_6_code, exceptionTable := #[], attributes := #[] }
def k5m2 : Method := { name := "length", desc := "()I", sig := { parameters := [], returnType := some .int }, accessFlags := 1, code := some k5c2 }
/-- java/lang/AbstractStringBuilder -/
def k5 : Class := { plain "java/lang/AbstractStringBuilder" (some 0) with
  accessFlags := 1056
  interfaces := #[3, 4]
  cf := some (fileOf pool5 10 #[] #[{ accessFlags := 0, nameIndex := 7, descriptorIndex := 8, attributes := #[] }, { accessFlags := 0, nameIndex := 7, descriptorIndex := 103, attributes := #[] }, { accessFlags := 1, nameIndex := 34, descriptorIndex := 35, attributes := #[] }] 1056 4 #[444, 48] #[{ accessFlags := 0, nameIndex := 17, descriptorIndex := 14, attributes := #[] }, { accessFlags := 0, nameIndex := 24, descriptorIndex := 25, attributes := #[] }, { accessFlags := 0, nameIndex := 75, descriptorIndex := 21, attributes := #[] }, { accessFlags := 0, nameIndex := 81, descriptorIndex := 82, attributes := #[] }, { accessFlags := 26, nameIndex := 13, descriptorIndex := 14, attributes := #[] }])
  fields := #[{ name := "value", type := (.array .byte), accessFlags := 0, slot := 0, constantValue := 0 }, { name := "coder", type := .byte, accessFlags := 0, slot := 1, constantValue := 0 }, { name := "maybeLatin1", type := .boolean, accessFlags := 0, slot := 2, constantValue := 0 }, { name := "count", type := .int, accessFlags := 0, slot := 3, constantValue := 0 }, { name := "EMPTYVALUE", type := (.array .byte), accessFlags := 26, slot := 0, constantValue := 0 }]
  methods := #[k5m0, k5m1, k5m2]
  instanceTypes := #[(.array .byte), .byte, .boolean, .int]
  staticTypes := #[(.array .byte)]
  resolved := Array.replicate 609 none
  statics := none }

def pool6 : Array CpInfo := pool [(1, .class_ 2), (0, u "java/io/Serializable"), (0, .class_ 4), (0, u "java/lang/Object")] 2

/-- java/io/Serializable -/
def k6 : Class := { plain "java/io/Serializable" (some 0) with
  accessFlags := 1537
  interfaces := #[]
  cf := some (fileOf pool6 1 #[] #[] 1537 3 #[] #[])
  fields := #[]
  methods := #[]
  instanceTypes := #[]
  staticTypes := #[]
  resolved := Array.replicate 7 none
  statics := none }

def pool7 : Array CpInfo := pool [(1, .class_ 2), (0, u "java/lang/Comparable"), (0, .class_ 4), (0, u "java/lang/Object")] 7

/-- java/lang/Comparable -/
def k7 : Class := { plain "java/lang/Comparable" (some 0) with
  accessFlags := 1537
  interfaces := #[]
  cf := some (fileOf pool7 1 #[] #[] 1537 3 #[] #[])
  fields := #[]
  methods := #[]
  instanceTypes := #[]
  staticTypes := #[]
  resolved := Array.replicate 12 none
  statics := none }

def pool8 : Array CpInfo := pool [(1, .methodref 2 3), (0, .class_ 4), (0, .nameAndType 5 6), (0, u "java/lang/AbstractStringBuilder"), (0, u "<init>"), (0, u "(I)V"), (17, .class_ 26), (1, u "java/lang/StringBuilder"), (118, u "()V"), (10, u "()I"), (186, .methodref 2 344), (0, .nameAndType 345 156), (0, u "length"), (3, .class_ 350), (0, u "java/lang/Appendable"), (0, .class_ 352), (0, u "java/io/Serializable"), (0, .class_ 354), (0, u "java/lang/Comparable"), (0, .class_ 356), (0, u "java/lang/CharSequence"), (0, u "serialVersionUID"), (0, u "J")] 63

def k8c0 : Code := { maxStack := 2, maxLocals := 1, code := jdk_67_method_1_code, exceptionTable := #[], attributes := #[] }
def k8m0 : Method := { name := "<init>", desc := "()V", sig := { parameters := [], returnType := none }, accessFlags := 1, code := some k8c0 }
def k8c1 : Code := { maxStack := 1, maxLocals := 1, code := jdk_67_method_93_code, exceptionTable := #[], attributes := #[] }
def k8m1 : Method := { name := "length", desc := "()I", sig := { parameters := [], returnType := some .int }, accessFlags := 4161, code := some k8c1 }
/-- java/lang/StringBuilder -/
def k8 : Class := { plain "java/lang/StringBuilder" (some 5) with
  accessFlags := 49
  interfaces := #[3, 6, 7, 4]
  cf := some (fileOf pool8 24 #[] #[{ accessFlags := 1, nameIndex := 5, descriptorIndex := 145, attributes := #[] }, { accessFlags := 4161, nameIndex := 345, descriptorIndex := 156, attributes := #[] }] 49 2 #[349, 351, 353, 355] #[{ accessFlags := 24, nameIndex := 357, descriptorIndex := 358, attributes := #[] }])
  fields := #[{ name := "serialVersionUID", type := .long, accessFlags := 24, slot := 0, constantValue := 0 }]
  methods := #[k8m0, k8m1]
  instanceTypes := #[(.array .byte), .byte, .boolean, .int]
  staticTypes := #[.long]
  resolved := Array.replicate 422 none
  statics := none }

def pool9 : Array CpInfo := pool [(1, .class_ 2), (0, u "java/lang/constant/Constable"), (0, .class_ 4), (0, u "java/lang/Object")] 6

/-- java/lang/constant/Constable -/
def k9 : Class := { plain "java/lang/constant/Constable" (some 0) with
  accessFlags := 1537
  interfaces := #[]
  cf := some (fileOf pool9 1 #[] #[] 1537 3 #[] #[])
  fields := #[]
  methods := #[]
  instanceTypes := #[]
  staticTypes := #[]
  resolved := Array.replicate 11 none
  statics := none }

def pool10 : Array CpInfo := pool [(1, .class_ 2), (0, u "java/lang/constant/ConstantDesc"), (0, .class_ 4), (0, u "java/lang/Object")] 32

/-- java/lang/constant/ConstantDesc -/
def k10 : Class := { plain "java/lang/constant/ConstantDesc" (some 0) with
  accessFlags := 1537
  interfaces := #[]
  cf := some (fileOf pool10 1 #[] #[] 1537 3 #[] #[])
  fields := #[]
  methods := #[]
  instanceTypes := #[]
  staticTypes := #[]
  resolved := Array.replicate 37 none
  statics := none }

def pool11 : Array CpInfo := pool [(2, .class_ 4), (1, u "java/lang/Object"), (0, u "<init>"), (0, u "()V"), (3, .class_ 12), (1, u "java/lang/String"), (0, u "value"), (0, u "[B"), (2, u "coder"), (0, u "B"), (2, u "hash"), (0, u "I"), (2, u "hashIsZero"), (0, u "Z"), (13, u "COMPACT_STRINGS"), (534, .class_ 576), (0, u "java/lang/CharSequence"), (22, u "CASE_INSENSITIVE_ORDER"), (0, u "Ljava/util/Comparator;"), (500, u "serialPersistentFields"), (0, u "[Ljava/io/ObjectStreamField;"), (0, .class_ 1104), (0, u "java/lang/String$CaseInsensitiveComparator"), (1, .class_ 1107), (0, u "java/io/Serializable"), (0, .class_ 1109), (0, u "java/lang/Comparable"), (0, .class_ 1111), (0, u "java/lang/constant/Constable"), (0, .class_ 1113), (0, u "java/lang/constant/ConstantDesc"), (2, u "serialVersionUID"), (0, u "J"), (3, u "REPL"), (0, u "C"), (2, u "LATIN1"), (1, u "UTF16")] 323

def k11m0 : Method := { name := "<init>", desc := "()V", sig := { parameters := [], returnType := none }, accessFlags := 1, code := none }
/-- java/lang/String -/
def k11 : Class := { plain "java/lang/String" (some 0) with
  accessFlags := 49
  interfaces := #[6, 7, 4, 9, 10]
  cf := some (fileOf pool11 10 #[.nestMembers #[1103]] #[{ accessFlags := 1, nameIndex := 5, descriptorIndex := 6, attributes := #[] }] 49 2 #[1106, 1108, 575, 1110, 1112] #[{ accessFlags := 18, nameIndex := 13, descriptorIndex := 14, attributes := #[] }, { accessFlags := 18, nameIndex := 17, descriptorIndex := 18, attributes := #[] }, { accessFlags := 2, nameIndex := 21, descriptorIndex := 22, attributes := #[] }, { accessFlags := 2, nameIndex := 25, descriptorIndex := 26, attributes := #[] }, { accessFlags := 26, nameIndex := 1116, descriptorIndex := 1117, attributes := #[] }, { accessFlags := 24, nameIndex := 40, descriptorIndex := 26, attributes := #[] }, { accessFlags := 26, nameIndex := 1101, descriptorIndex := 1102, attributes := #[] }, { accessFlags := 26, nameIndex := 1121, descriptorIndex := 1122, attributes := #[] }, { accessFlags := 25, nameIndex := 599, descriptorIndex := 600, attributes := #[] }, { accessFlags := 24, nameIndex := 1125, descriptorIndex := 18, attributes := #[] }, { accessFlags := 24, nameIndex := 1127, descriptorIndex := 18, attributes := #[] }])
  fields := #[{ name := "value", type := (.array .byte), accessFlags := 18, slot := 0, constantValue := 0 }, { name := "coder", type := .byte, accessFlags := 18, slot := 1, constantValue := 0 }, { name := "hash", type := .int, accessFlags := 2, slot := 2, constantValue := 0 }, { name := "hashIsZero", type := .boolean, accessFlags := 2, slot := 3, constantValue := 0 }, { name := "serialVersionUID", type := .long, accessFlags := 26, slot := 0, constantValue := 0 }, { name := "COMPACT_STRINGS", type := .boolean, accessFlags := 24, slot := 1, constantValue := 0 }, { name := "serialPersistentFields", type := (.array (.object "java/io/ObjectStreamField")), accessFlags := 26, slot := 2, constantValue := 0 }, { name := "REPL", type := .char, accessFlags := 26, slot := 3, constantValue := 0 }, { name := "CASE_INSENSITIVE_ORDER", type := (.object "java/util/Comparator"), accessFlags := 25, slot := 4, constantValue := 0 }, { name := "LATIN1", type := .byte, accessFlags := 24, slot := 5, constantValue := 0 }, { name := "UTF16", type := .byte, accessFlags := 24, slot := 6, constantValue := 0 }]
  methods := #[k11m0]
  instanceTypes := #[(.array .byte), .byte, .int, .boolean]
  staticTypes := #[.long, .boolean, (.array (.object "java/io/ObjectStreamField")), .char, (.object "java/util/Comparator"), .byte, .byte]
  resolved := Array.replicate 1451 none
  statics := some 0 }

def pool12 : Array CpInfo := pool [(4, .class_ 6), (1, u "java/lang/Object"), (0, u "<init>"), (0, u "()V"), (5, .class_ 16), (1, u "java/lang/StringLatin1"), (104, u "$assertionsDisabled"), (0, u "Z"), (98, .class_ 223), (1, u "java/lang/StringLatin1$LinesSpliterator"), (166, .class_ 391), (0, u "java/lang/StringLatin1$CharsSpliterator")] 3

def k12m0 : Method := { name := "<init>", desc := "()V", sig := { parameters := [], returnType := none }, accessFlags := 0, code := none }
/-- java/lang/StringLatin1 -/
def k12 : Class := { plain "java/lang/StringLatin1" (some 0) with
  accessFlags := 48
  interfaces := #[]
  cf := some (fileOf pool12 14 #[.nestMembers #[390, 221]] #[{ accessFlags := 0, nameIndex := 7, descriptorIndex := 8, attributes := #[] }] 48 4 #[] #[{ accessFlags := 4120, nameIndex := 121, descriptorIndex := 122, attributes := #[] }])
  fields := #[{ name := "$assertionsDisabled", type := .boolean, accessFlags := 4120, slot := 0, constantValue := 0 }]
  methods := #[k12m0]
  instanceTypes := #[]
  staticTypes := #[.boolean]
  resolved := Array.replicate 395 none
  statics := none }

def pool13 : Array CpInfo := pool [(2, .class_ 4), (1, u "java/lang/Object"), (0, u "<init>"), (0, u "()V"), (17, .class_ 26), (1, u "jdk/internal/util/Preconditions"), (28, .class_ 56), (0, u "jdk/internal/util/Preconditions$4"), (57, .class_ 115), (0, u "jdk/internal/util/Preconditions$1"), (7, u "SIOOBE_FORMATTER"), (0, u "Ljava/util/function/BiFunction;"), (0, .class_ 126), (0, u "jdk/internal/util/Preconditions$2"), (3, u "AIOOBE_FORMATTER"), (0, .class_ 132), (0, u "jdk/internal/util/Preconditions$3"), (3, u "IOOBE_FORMATTER")] 57

def k13m0 : Method := { name := "<init>", desc := "()V", sig := { parameters := [], returnType := none }, accessFlags := 1, code := none }
/-- jdk/internal/util/Preconditions -/
def k13 : Class := { plain "jdk/internal/util/Preconditions" (some 0) with
  accessFlags := 33
  interfaces := #[]
  cf := some (fileOf pool13 24 #[.nestMembers #[55, 131, 125, 114]] #[{ accessFlags := 1, nameIndex := 5, descriptorIndex := 6, attributes := #[] }] 33 2 #[] #[{ accessFlags := 25, nameIndex := 123, descriptorIndex := 124, attributes := #[] }, { accessFlags := 25, nameIndex := 130, descriptorIndex := 124, attributes := #[] }, { accessFlags := 25, nameIndex := 136, descriptorIndex := 124, attributes := #[] }])
  fields := #[{ name := "SIOOBE_FORMATTER", type := (.object "java/util/function/BiFunction"), accessFlags := 25, slot := 0, constantValue := 0 }, { name := "AIOOBE_FORMATTER", type := (.object "java/util/function/BiFunction"), accessFlags := 25, slot := 1, constantValue := 0 }, { name := "IOOBE_FORMATTER", type := (.object "java/util/function/BiFunction"), accessFlags := 25, slot := 2, constantValue := 0 }]
  methods := #[k13m0]
  instanceTypes := #[]
  staticTypes := #[(.object "java/util/function/BiFunction"), (.object "java/util/function/BiFunction"), (.object "java/util/function/BiFunction")]
  resolved := Array.replicate 194 none
  statics := some 1 }

def pool14 : Array CpInfo := pool [(9, u "<init>"), (6, .class_ 18), (1, u "java/lang/Object"), (0, u "()V"), (1, .class_ 23), (1, u "jdk/internal/util/ArraysSupport"), (0, u "LOG2_ARRAY_LONG_INDEX_SCALE"), (0, u "I"), (2, u "U"), (0, u "Ljdk/internal/misc/Unsafe;"), (8, u "BIG_ENDIAN"), (0, u "Z"), (8, u "LOG2_BYTE_BIT_SIZE"), (4, u "LOG2_ARRAY_INT_INDEX_SCALE"), (54, u "JLA"), (0, u "Ljdk/internal/access/JavaLangAccess;"), (11, u "LOG2_ARRAY_BOOLEAN_INDEX_SCALE"), (9, u "LOG2_ARRAY_BYTE_INDEX_SCALE"), (5, u "LOG2_ARRAY_CHAR_INDEX_SCALE"), (5, u "LOG2_ARRAY_SHORT_INDEX_SCALE"), (18, u "LOG2_ARRAY_FLOAT_INDEX_SCALE"), (24, u "LOG2_ARRAY_DOUBLE_INDEX_SCALE"), (89, u "T_BOOLEAN"), (2, u "T_CHAR"), (1, u "T_FLOAT"), (1, u "T_DOUBLE"), (1, u "T_BYTE"), (1, u "T_SHORT"), (1, u "T_INT"), (1, u "T_LONG"), (1, u "SOFT_MAX_ARRAY_LENGTH")] 83

def k14m0 : Method := { name := "<init>", desc := "()V", sig := { parameters := [], returnType := none }, accessFlags := 2, code := none }
/-- jdk/internal/util/ArraysSupport -/
def k14 : Class := { plain "jdk/internal/util/ArraysSupport" (some 0) with
  accessFlags := 33
  interfaces := #[]
  cf := some (fileOf pool14 21 #[] #[{ accessFlags := 2, nameIndex := 9, descriptorIndex := 19, attributes := #[] }] 33 16 #[] #[{ accessFlags := 24, nameIndex := 28, descriptorIndex := 29, attributes := #[] }, { accessFlags := 26, nameIndex := 38, descriptorIndex := 39, attributes := #[] }, { accessFlags := 25, nameIndex := 121, descriptorIndex := 25, attributes := #[] }, { accessFlags := 25, nameIndex := 131, descriptorIndex := 25, attributes := #[] }, { accessFlags := 25, nameIndex := 137, descriptorIndex := 25, attributes := #[] }, { accessFlags := 25, nameIndex := 143, descriptorIndex := 25, attributes := #[] }, { accessFlags := 25, nameIndex := 53, descriptorIndex := 25, attributes := #[] }, { accessFlags := 25, nameIndex := 24, descriptorIndex := 25, attributes := #[] }, { accessFlags := 25, nameIndex := 162, descriptorIndex := 25, attributes := #[] }, { accessFlags := 25, nameIndex := 187, descriptorIndex := 25, attributes := #[] }, { accessFlags := 26, nameIndex := 48, descriptorIndex := 25, attributes := #[] }, { accessFlags := 25, nameIndex := 277, descriptorIndex := 25, attributes := #[] }, { accessFlags := 25, nameIndex := 280, descriptorIndex := 25, attributes := #[] }, { accessFlags := 25, nameIndex := 282, descriptorIndex := 25, attributes := #[] }, { accessFlags := 25, nameIndex := 284, descriptorIndex := 25, attributes := #[] }, { accessFlags := 25, nameIndex := 286, descriptorIndex := 25, attributes := #[] }, { accessFlags := 25, nameIndex := 288, descriptorIndex := 25, attributes := #[] }, { accessFlags := 25, nameIndex := 290, descriptorIndex := 25, attributes := #[] }, { accessFlags := 25, nameIndex := 292, descriptorIndex := 25, attributes := #[] }, { accessFlags := 26, nameIndex := 108, descriptorIndex := 109, attributes := #[] }, { accessFlags := 25, nameIndex := 294, descriptorIndex := 25, attributes := #[] }])
  fields := #[{ name := "U", type := (.object "jdk/internal/misc/Unsafe"), accessFlags := 24, slot := 0, constantValue := 0 }, { name := "BIG_ENDIAN", type := .boolean, accessFlags := 26, slot := 1, constantValue := 0 }, { name := "LOG2_ARRAY_BOOLEAN_INDEX_SCALE", type := .int, accessFlags := 25, slot := 2, constantValue := 0 }, { name := "LOG2_ARRAY_BYTE_INDEX_SCALE", type := .int, accessFlags := 25, slot := 3, constantValue := 0 }, { name := "LOG2_ARRAY_CHAR_INDEX_SCALE", type := .int, accessFlags := 25, slot := 4, constantValue := 0 }, { name := "LOG2_ARRAY_SHORT_INDEX_SCALE", type := .int, accessFlags := 25, slot := 5, constantValue := 0 }, { name := "LOG2_ARRAY_INT_INDEX_SCALE", type := .int, accessFlags := 25, slot := 6, constantValue := 0 }, { name := "LOG2_ARRAY_LONG_INDEX_SCALE", type := .int, accessFlags := 25, slot := 7, constantValue := 0 }, { name := "LOG2_ARRAY_FLOAT_INDEX_SCALE", type := .int, accessFlags := 25, slot := 8, constantValue := 0 }, { name := "LOG2_ARRAY_DOUBLE_INDEX_SCALE", type := .int, accessFlags := 25, slot := 9, constantValue := 0 }, { name := "LOG2_BYTE_BIT_SIZE", type := .int, accessFlags := 26, slot := 10, constantValue := 0 }, { name := "T_BOOLEAN", type := .int, accessFlags := 25, slot := 11, constantValue := 0 }, { name := "T_CHAR", type := .int, accessFlags := 25, slot := 12, constantValue := 0 }, { name := "T_FLOAT", type := .int, accessFlags := 25, slot := 13, constantValue := 0 }, { name := "T_DOUBLE", type := .int, accessFlags := 25, slot := 14, constantValue := 0 }, { name := "T_BYTE", type := .int, accessFlags := 25, slot := 15, constantValue := 0 }, { name := "T_SHORT", type := .int, accessFlags := 25, slot := 16, constantValue := 0 }, { name := "T_INT", type := .int, accessFlags := 25, slot := 17, constantValue := 0 }, { name := "T_LONG", type := .int, accessFlags := 25, slot := 18, constantValue := 0 }, { name := "JLA", type := (.object "jdk/internal/access/JavaLangAccess"), accessFlags := 26, slot := 19, constantValue := 0 }, { name := "SOFT_MAX_ARRAY_LENGTH", type := .int, accessFlags := 25, slot := 20, constantValue := 0 }]
  methods := #[k14m0]
  instanceTypes := #[]
  staticTypes := #[(.object "jdk/internal/misc/Unsafe"), .boolean, .int, .int, .int, .int, .int, .int, .int, .int, .int, .int, .int, .int, .int, .int, .int, .int, .int, (.object "jdk/internal/access/JavaLangAccess"), .int]
  resolved := Array.replicate 378 none
  statics := none }

def pool15 : Array CpInfo := pool [(1, u "java/lang/Cloneable"), (0, .class_ 1), (0, u "java/lang/Object"), (0, .class_ 3)] 3

/-- java/lang/Cloneable -/
def k15 : Class := { plain "java/lang/Cloneable" (some 0) with
  accessFlags := 1537
  interfaces := #[]
  cf := some (fileOf pool15 2 #[] #[] 1537 4 #[] #[])
  fields := #[]
  methods := #[]
  instanceTypes := #[]
  staticTypes := #[]
  resolved := Array.replicate 8 none
  statics := none }

/-- the primitive byte -/
def k16 : Class := { plain "byte" none with kind := .primitive 'B', accessFlags := 0x411 }
/-- [B -/
def k17 : Class := { plain "[B" (some 0) with kind := .array 16 .byte, interfaces := #[15, 6], accessFlags := 1041 }

/-- the primitive char -/
def k18 : Class := { plain "char" none with kind := .primitive 'C', accessFlags := 0x411 }
/-- [C -/
def k19 : Class := { plain "[C" (some 0) with kind := .array 18 .char, interfaces := #[15, 6], accessFlags := 1041 }

/-- the primitive int -/
def k20 : Class := { plain "int" none with kind := .primitive 'I', accessFlags := 0x411 }
/-- [I -/
def k21 : Class := { plain "[I" (some 0) with kind := .array 20 .int, interfaces := #[15, 6], accessFlags := 1041 }

def heap : Heap := #[{ cls := 11, slots := #[.long 0, .int 1, .null, .int 0, .null, .int 0, .int 0], vm := .statics 11 },
  { cls := 13, slots := #[.null, .null, .null], vm := .statics 13 }]
def classes : Array Class := #[k0, k1, k2, k3, k4, k5, k6, k7, k8, k9, k10, k11, k12, k13, k14, k15, k16, k17, k18, k19, k20, k21]
def interned : List (Array UInt16 × Addr) := []
def slotsUsed : Nat := 10
def theMethod : MethodId := ⟨1, 1⟩
def args0 : Array Value := #[.long 5, .long 7, .int 3]
def aboutOver (below : List Frame) : State where
  vm := { classes := classes, interned := interned.toArray }
  heap := heap
  slotsUsed := slotsUsed
  threads := #[{ frames := .invoking theMethod args0 :: below }]
def below0 : List Frame := [.native { method := ⟨0, 0⟩, args := #[] }]
def about1 : State := aboutOver below0
def p0 : Program := .bare "" "" ""
def e0 : Env := launch0.env 0 0 0
theorem w_frames : about1.frames = Frame.invoking theMethod args0 :: below0 := rfl
set_option maxRecDepth 65536 in
theorem w_args : argsFit about1.vm theMethod args0 = true := by decide +kernel
set_option maxRecDepth 65536 in
theorem w_heap : heapFits about1 = true := by decide +kernel
set_option maxRecDepth 65536 in
theorem w_runnable : about1.curStatus? = some .runnable := by decide +kernel
set_option maxRecDepth 65536 in
theorem w_alone : about1.alone = true := by decide +kernel
set_option maxRecDepth 65536 in
theorem w_named : about1.methodNamed? x = some theMethod := by decide +kernel
set_option maxRecDepth 65536 in
theorem w_hears : about1.hears theMethod below0 = true := by decide +kernel
set_option maxRecDepth 65536 in
theorem w_ripe : about1.ripe theMethod args0 below0 = true := by decide +kernel
theorem w_running : about1.status = .running := rfl
set_option maxRecDepth 65536 in
theorem w_room : about1.hasRoom e0.platform room_1 = true :=
  launch0.hasRoom_least _ room_1 (by decide +kernel) (by decide +kernel) (by decide +kernel) (by decide +kernel) (by decide +kernel) (by decide +kernel)
theorem allAtoms_all (ts : List Jvm.Cond) (a : Array Jvm.Value) (st : Jvm.State) : (allAtoms ts).before a st = ts.all (fun c => c.before a st) := by
  induction ts with
  | nil => rfl
  | cons c t ih =>
    show (Jvm.Cond.and c (allAtoms t)).before a st = _
    rw [Jvm.Cond.before_and, ih, List.all_cons]
def words1 : List Jvm.Cond := Jvm.Cond.code x code maxLocals ret :: tables_1
/-- a 'code' word, met by the world's own term for the bytes: nothing is compared byte by byte -/
theorem code_word {y : MethodName} {bytes : ByteArray} {mx : Nat} {rt : Option FieldType} {a : Array Value} {s : State} {m : MethodId} {meth : Method} {c : Code} (h1 : s.methodNamed? y = some m) (h2 : s.vm.method? m = some meth) (h3 : meth.code = some c) (h4 : c.code = bytes)
    (h5 : (c.maxLocals == mx && c.exceptionTable.isEmpty && decide (c.maxStack ≤ mostOperands) && decide (meth.sig.returnType = rt) && !meth.locks && decide (parseMethodDescriptor y.desc = some meth.sig)) = true) : (Jvm.Cond.code y bytes mx rt).before a s = true := by
  simp only [Bool.and_eq_true, beq_iff_eq, Bool.not_eq_true', decide_eq_true_eq] at h5
  obtain ⟨⟨⟨⟨⟨g1, g2⟩, g3⟩, g4⟩, g5⟩, g6⟩ := h5
  simp [Cond.before, Cond.holds, Cond.value, h1, h2, h3, h4, g1, g2, g3, g4, g5, g6]
def isCode : Jvm.Cond → Bool
  | .code _ _ _ _ => true
  | _ => false
theorem all_split {L : List Jvm.Cond} {P : Jvm.Cond → Bool} (h1 : L.all (fun c => isCode c || P c) = true) (h2 : ∀ c ∈ L.filter isCode, P c = true) : L.all P = true := by
  refine List.all_eq_true.mpr fun c hc => ?_
  have h := List.all_eq_true.mp h1 c hc
  rcases Bool.eq_false_or_eq_true (isCode c) with hi | hi
  · exact h2 c (List.mem_filter.mpr ⟨hc, hi⟩)
  · simpa [hi] using h
set_option maxRecDepth 65536 in
theorem w_c0 : (Jvm.Cond.code x code maxLocals ret).before args0 about1 = true := code_word (m := ⟨1, 1⟩) (meth := k1m1) (c := k1c1) (by decide +kernel) rfl rfl rfl (by decide +kernel)
set_option maxRecDepth 65536 in
theorem w_c1 : (Jvm.Cond.code ({ cls := "org/codeweft/fhir/OpenTags", name := "<init>", desc := "()V" } : Jvm.MethodName) prog_141_method_1_code (1 : Nat) (Option.none : Option Jvm.ClassFile.FieldType)).before args0 about1 = true := code_word (m := ⟨2, 0⟩) (meth := k2m0) (c := k2c0) (by decide +kernel) rfl rfl rfl (by decide +kernel)
set_option maxRecDepth 65536 in
theorem w_c2 : (Jvm.Cond.code ({ cls := "java/lang/Object", name := "<init>", desc := "()V" } : Jvm.MethodName) object_method_1_code (1 : Nat) (Option.none : Option Jvm.ClassFile.FieldType)).before args0 about1 = true := code_word (m := ⟨0, 0⟩) (meth := k0m0) (c := k0c0) (by decide +kernel) rfl rfl rfl (by decide +kernel)
set_option maxRecDepth 65536 in
theorem w_c3 : (Jvm.Cond.code ({ cls := "java/lang/StringBuilder", name := "<init>", desc := "()V" } : Jvm.MethodName) jdk_67_method_1_code (1 : Nat) (Option.none : Option Jvm.ClassFile.FieldType)).before args0 about1 = true := code_word (m := ⟨8, 0⟩) (meth := k8m0) (c := k8c0) (by decide +kernel) rfl rfl rfl (by decide +kernel)
set_option maxRecDepth 65536 in
theorem w_c4 : (Jvm.Cond.code ({ cls := "java/lang/AbstractStringBuilder", name := "<init>", desc := "(I)V" } : Jvm.MethodName) jdk_68_method_2_code (2 : Nat) (Option.none : Option Jvm.ClassFile.FieldType)).before args0 about1 = true := code_word (m := ⟨5, 1⟩) (meth := k5m1) (c := k5c1) (by decide +kernel) rfl rfl rfl (by decide +kernel)
set_option maxRecDepth 65536 in
theorem w_c5 : (Jvm.Cond.code ({ cls := "org/codeweft/fhir/OpenTags", name := "count", desc := "()I" } : Jvm.MethodName) prog_141_method_2_code (1 : Nat) (Option.some Jvm.ClassFile.FieldType.int)).before args0 about1 = true := code_word (m := ⟨2, 1⟩) (meth := k2m1) (c := k2c1) (by decide +kernel) rfl rfl rfl (by decide +kernel)
set_option maxRecDepth 65536 in
theorem w_c6 : (Jvm.Cond.code ({ cls := "org/codeweft/fhir/OpenTags", name := "held", desc := "()I" } : Jvm.MethodName) prog_141_method_3_code (1 : Nat) (Option.some Jvm.ClassFile.FieldType.int)).before args0 about1 = true := code_word (m := ⟨2, 2⟩) (meth := k2m2) (c := k2c2) (by decide +kernel) rfl rfl rfl (by decide +kernel)
set_option maxRecDepth 65536 in
theorem w_c7 : (Jvm.Cond.code ({ cls := "org/codeweft/fhir/OpenTags", name := "begin", desc := "()V" } : Jvm.MethodName) prog_141_method_4_code (1 : Nat) (Option.none : Option Jvm.ClassFile.FieldType)).before args0 about1 = true := code_word (m := ⟨2, 3⟩) (meth := k2m3) (c := k2c3) (by decide +kernel) rfl rfl rfl (by decide +kernel)
set_option maxRecDepth 65536 in
theorem w_c8 : (Jvm.Cond.code ({ cls := "java/lang/StringBuilder", name := "length", desc := "()I" } : Jvm.MethodName) jdk_67_method_93_code (1 : Nat) (Option.some Jvm.ClassFile.FieldType.int)).before args0 about1 = true := code_word (m := ⟨8, 1⟩) (meth := k8m1) (c := k8c1) (by decide +kernel) rfl rfl rfl (by decide +kernel)
set_option maxRecDepth 65536 in
theorem w_c9 : (Jvm.Cond.code ({ cls := "java/lang/AbstractStringBuilder", name := "length", desc := "()I" } : Jvm.MethodName) jdk_68_method_6_code (1 : Nat) (Option.some Jvm.ClassFile.FieldType.int)).before args0 about1 = true := code_word (m := ⟨5, 2⟩) (meth := k5m2) (c := k5c2) (by decide +kernel) rfl rfl rfl (by decide +kernel)
set_option maxRecDepth 65536 in
theorem w_c10 : (Jvm.Cond.code ({ cls := "org/codeweft/fhir/OpenTags", name := "open", desc := "(J)V" } : Jvm.MethodName) prog_141_method_7_code (3 : Nat) (Option.none : Option Jvm.ClassFile.FieldType)).before args0 about1 = true := code_word (m := ⟨2, 4⟩) (meth := k2m4) (c := k2c4) (by decide +kernel) rfl rfl rfl (by decide +kernel)
set_option maxRecDepth 65536 in
theorem w_c11 : (Jvm.Cond.code ({ cls := "org/codeweft/fhir/OpenTags", name := "close", desc := "()V" } : Jvm.MethodName) prog_141_method_9_code (1 : Nat) (Option.none : Option Jvm.ClassFile.FieldType)).before args0 about1 = true := code_word (m := ⟨2, 5⟩) (meth := k2m5) (c := k2c5) (by decide +kernel) rfl rfl rfl (by decide +kernel)
set_option maxRecDepth 65536 in
theorem w_c12 : (Jvm.Cond.code ({ cls := "org/codeweft/fhir/OpenTags", name := "truncate", desc := "(I)V" } : Jvm.MethodName) prog_141_method_12_code (2 : Nat) (Option.none : Option Jvm.ClassFile.FieldType)).before args0 about1 = true := code_word (m := ⟨2, 6⟩) (meth := k2m6) (c := k2c6) (by decide +kernel) rfl rfl rfl (by decide +kernel)
def codes1 : List Jvm.Cond := [Jvm.Cond.code x code maxLocals ret, Jvm.Cond.code ({ cls := "org/codeweft/fhir/OpenTags", name := "<init>", desc := "()V" } : Jvm.MethodName) prog_141_method_1_code (1 : Nat) (Option.none : Option Jvm.ClassFile.FieldType), Jvm.Cond.code ({ cls := "java/lang/Object", name := "<init>", desc := "()V" } : Jvm.MethodName) object_method_1_code (1 : Nat) (Option.none : Option Jvm.ClassFile.FieldType), Jvm.Cond.code ({ cls := "java/lang/StringBuilder", name := "<init>", desc := "()V" } : Jvm.MethodName) jdk_67_method_1_code (1 : Nat) (Option.none : Option Jvm.ClassFile.FieldType), Jvm.Cond.code ({ cls := "java/lang/AbstractStringBuilder", name := "<init>", desc := "(I)V" } : Jvm.MethodName) jdk_68_method_2_code (2 : Nat) (Option.none : Option Jvm.ClassFile.FieldType), Jvm.Cond.code ({ cls := "org/codeweft/fhir/OpenTags", name := "count", desc := "()I" } : Jvm.MethodName) prog_141_method_2_code (1 : Nat) (Option.some Jvm.ClassFile.FieldType.int), Jvm.Cond.code ({ cls := "org/codeweft/fhir/OpenTags", name := "held", desc := "()I" } : Jvm.MethodName) prog_141_method_3_code (1 : Nat) (Option.some Jvm.ClassFile.FieldType.int), Jvm.Cond.code ({ cls := "org/codeweft/fhir/OpenTags", name := "begin", desc := "()V" } : Jvm.MethodName) prog_141_method_4_code (1 : Nat) (Option.none : Option Jvm.ClassFile.FieldType), Jvm.Cond.code ({ cls := "java/lang/StringBuilder", name := "length", desc := "()I" } : Jvm.MethodName) jdk_67_method_93_code (1 : Nat) (Option.some Jvm.ClassFile.FieldType.int), Jvm.Cond.code ({ cls := "java/lang/AbstractStringBuilder", name := "length", desc := "()I" } : Jvm.MethodName) jdk_68_method_6_code (1 : Nat) (Option.some Jvm.ClassFile.FieldType.int), Jvm.Cond.code ({ cls := "org/codeweft/fhir/OpenTags", name := "open", desc := "(J)V" } : Jvm.MethodName) prog_141_method_7_code (3 : Nat) (Option.none : Option Jvm.ClassFile.FieldType), Jvm.Cond.code ({ cls := "org/codeweft/fhir/OpenTags", name := "close", desc := "()V" } : Jvm.MethodName) prog_141_method_9_code (1 : Nat) (Option.none : Option Jvm.ClassFile.FieldType), Jvm.Cond.code ({ cls := "org/codeweft/fhir/OpenTags", name := "truncate", desc := "(I)V" } : Jvm.MethodName) prog_141_method_12_code (2 : Nat) (Option.none : Option Jvm.ClassFile.FieldType)]
set_option maxRecDepth 65536 in
theorem codes_eq : words1.filter isCode = codes1 := rfl
theorem w_codes : ∀ c ∈ words1.filter isCode, c.before args0 about1 = true := by
  rw [codes_eq]
  intro c hc
  simp only [codes1, List.mem_cons, List.not_mem_nil, or_false] at hc
  rcases hc with rfl | rfl | rfl | rfl | rfl | rfl | rfl | rfl | rfl | rfl | rfl | rfl | rfl
  · exact w_c0
  · exact w_c1
  · exact w_c2
  · exact w_c3
  · exact w_c4
  · exact w_c5
  · exact w_c6
  · exact w_c7
  · exact w_c8
  · exact w_c9
  · exact w_c10
  · exact w_c11
  · exact w_c12
set_option maxRecDepth 65536 in
theorem w_t1 : (words1.take 24).all (fun c => isCode c || c.before args0 about1) = true := by decide +kernel
set_option maxRecDepth 65536 in
theorem w_t2 : ((words1.drop 24).take 24).all (fun c => isCode c || c.before args0 about1) = true := by decide +kernel
set_option maxRecDepth 65536 in
theorem w_t3 : (((words1.drop 24).drop 24).take 24).all (fun c => isCode c || c.before args0 about1) = true := by decide +kernel
set_option maxRecDepth 65536 in
theorem w_t4 : (((words1.drop 24).drop 24).drop 24).all (fun c => isCode c || c.before args0 about1) = true := by decide +kernel
theorem w_tables : (allAtoms (Jvm.Cond.code x code maxLocals ret :: tables_1)).before args0 about1 = true := by
  rw [allAtoms_all]
  show words1.all (fun c => c.before args0 about1) = true
  refine all_split ?_ w_codes
  rw [← List.take_append_drop 24 words1, List.all_append, w_t1, ← List.take_append_drop 24 (words1.drop 24), List.all_append, w_t2, ← List.take_append_drop 24 ((words1.drop 24).drop 24), List.all_append, w_t3, w_t4]
  rfl
set_option maxRecDepth 65536 in
theorem w_rest : rest_1_c.before args0 about1 = true := by decide +kernel
set_option maxRecDepth 65536 in
theorem w_case : (Jvm.Cond.and given_1 narrow_1).before args0 about1 = true := by decide +kernel
theorem w_applies : (headSpec (Jvm.Cond.code x code maxLocals ret :: tables_1) room_1).applies x e0.platform about1 = true :=
  (Spec.applies_iff w_frames).mpr ⟨w_running, w_runnable, w_alone, w_named, w_hears, w_ripe, w_room, w_tables⟩
theorem atStart : AtStart classFile x code maxLocals ret World_1 tables_1 room_1 Calls_1 rest_1 Pre_1 launch0 p0 e0 about1 theMethod args0 below0 :=
  ⟨lists_1, trivial, launch0.admits_env _ _ _, launch0.least_env, fairChoices_fair.cas, fairChoices_fair.clock, w_frames, w_args, w_heap, w_applies, trivial, w_rest, w_case⟩
end start1
theorem witness_1 : WitnessClaimed_1 := ⟨start1.p0, start1.e0, start1.about1, start1.theMethod, start1.args0, start1.below0, start1.atStart⟩
end Jvm.Pilot.@@N@@
