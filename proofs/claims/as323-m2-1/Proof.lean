import JvmDerived
import JvmDerived.Pilot.@@N@@Statement
import JvmDerived.Pilot.@@N@@Code
set_option linter.unusedVariables false
set_option linter.unusedSimpArgs false
namespace Jvm.RoadKit
open Sem ClassFile Op Lib Jvm.Stand Jvm.Free Jvm.LawKit
section New
variable {p : Program} {l : Launch} {e : Env} {R : Room} {s : State} {m : MethodId} {args : Array Value} {below : List Frame} {meth : Method} {c : Code} {T : State} {locs : List Loc} {cells slots : Nat}
theorem retI (X : Stand p l e R s m args below meth c T locs cells slots) (hx : p.tables.exec = Jvm.exec) {pc : Nat} {Ls : Array Slot} {z : Int32} {rest : List Value} (hret : meth.sig.returnType = some .int) (hd : decode c.code pc = .ok (.ireturn, 1)) {fs : List Frame}
    (hl : ∀ (f : JFrame) (acts : List Action), f.method = m → f.locked = none → f.entered = [] → (doReturn e (T.setTop f) acts (some (.int z))).1 = T.setFrames fs) : Steps p.tables e below (T.setTop (mkF m pc Ls (.int z :: rest))) (T.setFrames fs) := by
  have hm' : T.vm.method? m = some meth := X.method'
  have hn : narrow .int (.int z) = .int z := rfl
  show Steps p.tables e below (T.setTop { method := m, pc := pc, locals := Ls, stack := _ :: rest, locked := none }) _
  jvm_step X.here [X.here.top, hx, hd, hm', hret, hn]
  first | (intro acts; rw [hl _ acts rfl rfl rfl]) | rw [hl _ _ rfl rfl rfl]
  exact Steps.refl _
end New
end Jvm.RoadKit
namespace Jvm.Pilot.@@N@@
open Jvm Jvm.ClassFile Sem Op Lib Jvm.Free Jvm.Stand Jvm.LawKit Jvm.RoadKit Bundle Jvm.Pilot.@@N@@.Jvm.D
theorem own_selects {s : State} {args : Array Value} {n : Nat} {y : MethodName} (hy : y.cls ≠ "java/lang/invoke/MethodHandle" ∧ y.cls ≠ "java/lang/invoke/VarHandle") (hins : (Jvm.Cond.instantiable y.cls n).before args s = true) (hpriv : (Jvm.Cond.privateMethod y).before args s = true) (hinst : (Jvm.Cond.instanceMethod y).before args s = true) :
    (Jvm.Cond.selects y.cls y y).before args s = true := by
  obtain ⟨c, k, hc, hk, -, hniab, -, -⟩ := Cond.instantiable_spec hins
  have hni : k.isInterface = false := (Bool.or_eq_false_iff.mp hniab).1
  obtain ⟨mk, methM, hnamed, hmethM, -, -⟩ := Cond.instanceMethod_spec hinst
  have hfound : s.methodFound? y.cls y.name y.desc = some mk := State.methodFound?_of_named hnamed hy
  have hcls : mk.cls = c := Option.some.inj ((findClass_of_methodNamed hnamed).symm.trans hc)
  have hsel : selectMethod {} s.vm c mk = .method mk := selectMethod_private hmethM (Cond.privateMethod_at hpriv mk methM hnamed hmethM)
  simp only [Cond.before, Cond.holds, Cond.value, hc, hfound, hnamed, hsel, hcls, hk]
  simp; exact hni
/-- the reader at r: nothing read yet -/
def own_R (Z : State) (h : Heap) (r hd : Addr) (hY : Int32) : Prop := Exa Z h r "com/example/rolegate/rolegate/server/http/RequestReader" ∧ Fld Z h r "com/example/rolegate/rolegate/server/http/RequestReader" "stage" "Lcom/example/rolegate/rolegate/server/http/RequestReader$Stage;" (.ref hd) ∧ Fld Z h r "com/example/rolegate/rolegate/server/http/RequestReader" "headBytes" "I" (.int hY) ∧ Fld Z h r "com/example/rolegate/rolegate/server/http/RequestReader" "continueDue" "Z" (.int (0 : Int32)) ∧ Fld Z h r "com/example/rolegate/rolegate/server/http/RequestReader" "end" "I" (.int (0 : Int32)) ∧ Fld Z h r "com/example/rolegate/rolegate/server/http/RequestReader" "start" "I" (.int (0 : Int32)) ∧ Fld Z h r "com/example/rolegate/rolegate/server/http/RequestReader" "scanned" "I" (.int (0 : Int32))
theorem d1_0 : decode prog_14_method_1_code 0 = .ok (.aload_n 0, 1) := by decide +kernel
theorem d1_1 : decode prog_14_method_1_code 1 = .ok (.invokespecial 1, 3) := by decide +kernel
theorem d1_4 : decode prog_14_method_1_code 4 = .ok (.aload_n 0, 1) := by decide +kernel
theorem d1_5 : decode prog_14_method_1_code 5 = .ok (.sipush 512, 3) := by decide +kernel
theorem d1_8 : decode prog_14_method_1_code 8 = .ok (.newarray .byte, 2) := by decide +kernel
theorem d1_10 : decode prog_14_method_1_code 10 = .ok (.putfield 7, 3) := by decide +kernel
theorem d1_13 : decode prog_14_method_1_code 13 = .ok (.aload_n 0, 1) := by decide +kernel
theorem d1_14 : decode prog_14_method_1_code 14 = .ok (.getstatic 13, 3) := by decide +kernel
theorem d1_17 : decode prog_14_method_1_code 17 = .ok (.putfield 19, 3) := by decide +kernel
theorem d1_20 : decode prog_14_method_1_code 20 = .ok (.aload_n 0, 1) := by decide +kernel
theorem d1_21 : decode prog_14_method_1_code 21 = .ok (.iload_n 1, 1) := by decide +kernel
theorem d1_22 : decode prog_14_method_1_code 22 = .ok (.putfield 22, 3) := by decide +kernel
theorem d1_25 : decode prog_14_method_1_code 25 = .ok (.aload_n 0, 1) := by decide +kernel
theorem d1_26 : decode prog_14_method_1_code 26 = .ok (.iload_n 2, 1) := by decide +kernel
theorem d1_27 : decode prog_14_method_1_code 27 = .ok (.putfield 26, 3) := by decide +kernel
theorem d1_30 : decode prog_14_method_1_code 30 = .ok (.return_, 1) := by decide +kernel
theorem pn_1 : plainName "com/example/rolegate/rolegate/server/http/RequestReader" = true := by first | (simp [plainName, overriddenIn]; done) | decide +kernel
theorem ef_1 (m : MethodId) (x0 : Addr) (x1 : Int32) (x2 : Int32) : entryFrame m #[(.ref x0), (.int x1), (.int x2)] 3 = mkF m 0 #[.val (.ref x0), .val (.int x1), .val (.int x2)] [] := by first | (simp [entryFrame, mkF, argsToLocals, Value.category]; done) | rfl
def Q1 (Z : State) (a1 hd : Addr) (hY : Int32) (h0 : Heap) (n0 : Nat) (v : Option Value) (h : Heap) (L : List Loc) : Prop := v = none ∧ Fr n0 L ∧ Keep h0 h [a1] ∧ own_R Z h a1 hd hY
set_option maxRecDepth 65536 in
set_option maxHeartbeats 40000000 in
theorem rm1 (l : Launch) (Z : State) (a0 : Array Value) (hw : ∀ d ∈ tables_1, d.before a0 Z = true) (ws : List Jvm.Cond) (a1 hd : Addr) (hY p3 : Int32) (h0 : Heap) (n0 : Nat) (Z0 : n0 ≤ h0.size) (E_a1 : Exa Z h0 a1 "com/example/rolegate/rolegate/server/http/RequestReader") (F_buffer_a1 : Fld Z h0 a1 "com/example/rolegate/rolegate/server/http/RequestReader" "buffer" "[B" .null) (g_a1 : n0 ≤ a1) (S_HEAD : Sta Z h0 "com/example/rolegate/rolegate/server/http/RequestReader$Stage" "HEAD" "Lcom/example/rolegate/rolegate/server/http/RequestReader$Stage;" (.ref hd)) (F_stage_a1 : Fld Z h0 a1 "com/example/rolegate/rolegate/server/http/RequestReader" "stage" "Lcom/example/rolegate/rolegate/server/http/RequestReader$Stage;" .null) (F_headBytes_a1 : Fld Z h0 a1 "com/example/rolegate/rolegate/server/http/RequestReader" "headBytes" "I" (.int (0 : Int32))) (F_bodyBytes_a1 : Fld Z h0 a1 "com/example/rolegate/rolegate/server/http/RequestReader" "bodyBytes" "I" (.int (0 : Int32))) (F_continueDue_a1 : Fld Z h0 a1 "com/example/rolegate/rolegate/server/http/RequestReader" "continueDue" "Z" (.int (0 : Int32))) (F_end_a1 : Fld Z h0 a1 "com/example/rolegate/rolegate/server/http/RequestReader" "end" "I" (.int (0 : Int32))) (F_start_a1 : Fld Z h0 a1 "com/example/rolegate/rolegate/server/http/RequestReader" "start" "I" (.int (0 : Int32))) (F_scanned_a1 : Fld Z h0 a1 "com/example/rolegate/rolegate/server/http/RequestReader" "scanned" "I" (.int (0 : Int32))) :
    MetFree l (⟨"com/example/rolegate/rolegate/server/http/RequestReader", "<init>", "(II)V"⟩ : MethodName) (head1 (Jvm.Cond.code (⟨"com/example/rolegate/rolegate/server/http/RequestReader", "<init>", "(II)V"⟩ : MethodName) prog_14_method_1_code 3 none :: ws) ({ frames := 1, cells := 1, slots := 512, locals := 12 } : Room)) (fun a U => a = #[(.ref a1), (.int hY), (.int p3)] ∧ Z.Warmed39 U.vm ∧ U.heap = h0) (fun _ _ _ _ _ => True) (fun _ U o U' => ∃ v L, o = .returned v ∧ Q1 Z a1 hd hY h0 n0 v U'.heap L ∧ FrameEnd U o U' L ({ frames := 1, cells := 1, slots := 512, locals := 12 } : Room).cells ({ frames := 1, cells := 1, slots := 512, locals := 12 } : Room).slots) := by
  refine MetFree.of_bodySF (plainFor_of_name pn_1) hisR ?_
  intro p e s m args below meth c s₁ Bd hml0 hP hK
  obtain ⟨rfl, hZ, hh⟩ := hP
  have hx := Bd.exec
  have hby := Bd.bytes
  have hml : c.maxLocals = 3 := hml0
  have hown : s.vm.findClass "com/example/rolegate/rolegate/server/http/RequestReader" = some m.cls := findClass_of_methodNamed Bd.named
  have hnm := (name_of_methodNamed Bd.named Bd.method).1
  have X0 : Stand p l e ({ frames := 1, cells := 1, slots := 512, locals := 12 } : Room) s m #[(.ref a1), (.int hY), (.int p3)] below meth c s₁ [] 0 0 := Stand.of_body Bd
  have e0 : s₁.heap = h0 := by rw [← hh, Bd.state]; rfl
  have N0 := Fr.nil n0
  have pre0 : ∀ t, Steps p.tables e below (s₁.setTop (mkF m 0 #[.val (.ref a1), .val (.int hY), .val (.int p3)] [])) t → Steps p.tables e below (s₁.setTop (entryFrame m #[(.ref a1), (.int hY), (.int p3)] 3)) t := fun t k => castTop (ef_1 m a1 hY p3) k
  -- 3. LAWS
  obtain ⟨T4, X4, e4, st4⟩ := initO X0 hx hZ hown (hw _ (List.mem_of_getElem? (i := 7) rfl)) (hw _ (List.mem_of_getElem? (i := 8) rfl)) (hw _ (List.mem_of_getElem? (i := 9) rfl)) e0 (g := (mkF m 1 #[.val (.ref a1), .val (.int hY), .val (.int p3)] [(.ref a1)])) rfl (by rw [hml]; rfl) rfl (hb hby d1_1) (by decide) (W := 0) (by show 2 * 0 + _ ≤ _; exact Nat.le_of_eq rfl) (by decide)
  obtain ⟨T5, h5, k5, X5, e5, E5, A5, st5⟩ := newP X4 hx hZ (hw _ (List.mem_of_getElem? (i := 10) rfl)) e4 (g := (mkF m 8 #[.val (.ref a1), .val (.int hY), .val (.int p3)] [(.int (512 : Int32)), (.ref a1)])) rfl (hb hby d1_8) rfl (by decide) (cap := 512) (by decide) (by decide) (by decide) (by decide)
  obtain ⟨b5, g5⟩ : ∃ z, z = h0.size := ⟨_, rfl⟩      -- the fresh array's address
  rw [← g5] at A5 st5
  have g_b5 : n0 ≤ b5 := Nat.le_trans Z0 (Nat.le_of_eq g5.symm)
  have sz_b5 : h0.size ≤ b5 := (Nat.le_trans (Keep.refl h0 [a1]).1 (Nat.le_of_eq g5.symm))
  have K5 : Keep h0 h5 [a1] := (Keep.refl h0 [a1]).ext E5
  obtain ⟨T6, h6, X6, e6, W6, st6⟩ := putF X5 hx hZ hown (host := "") (Or.inl (hw _ (List.mem_of_getElem? (i := 11) rfl))) Via.refl e5 (F_buffer_a1.ext E5) (E_a1.ext E5) (Or.inl (hw _ (List.mem_of_getElem? (i := 12) rfl))) (hw _ (List.mem_of_getElem? (i := 1) rfl)) (ty := (.array .byte)) (by decide) rfl rfl (g := (mkF m 10 #[.val (.ref a1), .val (.int hY), .val (.int p3)] [(.ref b5), (.ref a1)])) rfl rfl (hb hby d1_10)
  have Fw6 := (F_buffer_a1.ext E5).same W6      -- the field now holds (.ref b5)
  have K6 : Keep h0 h6 [a1] := K5.wr W6 (Or.inl (List.mem_of_getElem? (i := 0) rfl))
  have N6 := Fr.snoc X6 N0 g_a1
  obtain ⟨T8, X8, e8, st8⟩ := getS2 X6 hx hZ hown (host := "") (Or.inl (hw _ (List.mem_of_getElem? (i := 13) rfl))) Via.refl e6 ((S_HEAD.ext E5).wr W6) (g := (mkF m 14 #[.val (.ref a1), .val (.int hY), .val (.int p3)] [(.ref a1)])) rfl (hb hby d1_14)
  obtain ⟨T9, h9, X9, e9, W9, st9⟩ := putF X8 hx hZ hown (host := "") (Or.inl (hw _ (List.mem_of_getElem? (i := 16) rfl))) Via.refl e8 ((F_stage_a1.ext E5).other W6 (Or.inr (slot_ne (Or.inl (hw _ (List.mem_of_getElem? (i := 17) rfl))) (Or.inl (hw _ (List.mem_of_getElem? (i := 12) rfl))) (by decide) (t := (.object "com/example/rolegate/rolegate/server/http/RequestReader$Stage")) (t' := (.array .byte)) (by decide) (by decide)))) ((E_a1.ext E5).wr W6) (Or.inl (hw _ (List.mem_of_getElem? (i := 17) rfl))) (hw _ (List.mem_of_getElem? (i := 1) rfl)) (ty := (.object "com/example/rolegate/rolegate/server/http/RequestReader$Stage")) (by decide) rfl rfl (g := (mkF m 17 #[.val (.ref a1), .val (.int hY), .val (.int p3)] [(.ref hd), (.ref a1)])) rfl rfl (hb hby d1_17)
  have Fw9 := ((F_stage_a1.ext E5).other W6 (Or.inr (slot_ne (Or.inl (hw _ (List.mem_of_getElem? (i := 17) rfl))) (Or.inl (hw _ (List.mem_of_getElem? (i := 12) rfl))) (by decide) (t := (.object "com/example/rolegate/rolegate/server/http/RequestReader$Stage")) (t' := (.array .byte)) (by decide) (by decide)))).same W9      -- the field now holds (.ref hd)
  have K9 : Keep h0 h9 [a1] := K6.wr W9 (Or.inl (List.mem_of_getElem? (i := 0) rfl))
  have N9 := Fr.snoc X9 N6 g_a1
  obtain ⟨T10, h10, X10, e10, W10, st10⟩ := putF X9 hx hZ hown (host := "") (Or.inl (hw _ (List.mem_of_getElem? (i := 18) rfl))) Via.refl e9 (((F_headBytes_a1.ext E5).other W6 (Or.inr (slot_ne (Or.inr (hw _ (List.mem_of_getElem? (i := 19) rfl))) (Or.inl (hw _ (List.mem_of_getElem? (i := 12) rfl))) (by decide) (t := .int) (t' := (.array .byte)) (by decide) (by decide)))).other W9 (Or.inr (slot_ne (Or.inr (hw _ (List.mem_of_getElem? (i := 19) rfl))) (Or.inl (hw _ (List.mem_of_getElem? (i := 17) rfl))) (by decide) (t := .int) (t' := (.object "com/example/rolegate/rolegate/server/http/RequestReader$Stage")) (by decide) (by decide)))) (((E_a1.ext E5).wr W6).wr W9) (Or.inr ⟨(hw _ (List.mem_of_getElem? (i := 19) rfl)), rfl, hnm⟩) (hw _ (List.mem_of_getElem? (i := 1) rfl)) (ty := .int) (by decide) rfl rfl (g := (mkF m 22 #[.val (.ref a1), .val (.int hY), .val (.int p3)] [(.int hY), (.ref a1)])) rfl rfl (hb hby d1_22)
  have Fw10 := (((F_headBytes_a1.ext E5).other W6 (Or.inr (slot_ne (Or.inr (hw _ (List.mem_of_getElem? (i := 19) rfl))) (Or.inl (hw _ (List.mem_of_getElem? (i := 12) rfl))) (by decide) (t := .int) (t' := (.array .byte)) (by decide) (by decide)))).other W9 (Or.inr (slot_ne (Or.inr (hw _ (List.mem_of_getElem? (i := 19) rfl))) (Or.inl (hw _ (List.mem_of_getElem? (i := 17) rfl))) (by decide) (t := .int) (t' := (.object "com/example/rolegate/rolegate/server/http/RequestReader$Stage")) (by decide) (by decide)))).same W10      -- the field now holds (.int hY)
  have K10 : Keep h0 h10 [a1] := K9.wr W10 (Or.inl (List.mem_of_getElem? (i := 0) rfl))
  have N10 := Fr.snoc X10 N9 g_a1
  obtain ⟨T11, h11, X11, e11, W11, st11⟩ := putF X10 hx hZ hown (host := "") (Or.inl (hw _ (List.mem_of_getElem? (i := 20) rfl))) Via.refl e10 ((((F_bodyBytes_a1.ext E5).other W6 (Or.inr (slot_ne (Or.inr (hw _ (List.mem_of_getElem? (i := 21) rfl))) (Or.inl (hw _ (List.mem_of_getElem? (i := 12) rfl))) (by decide) (t := .int) (t' := (.array .byte)) (by decide) (by decide)))).other W9 (Or.inr (slot_ne (Or.inr (hw _ (List.mem_of_getElem? (i := 21) rfl))) (Or.inl (hw _ (List.mem_of_getElem? (i := 17) rfl))) (by decide) (t := .int) (t' := (.object "com/example/rolegate/rolegate/server/http/RequestReader$Stage")) (by decide) (by decide)))).other W10 (Or.inr (slot_ne (Or.inr (hw _ (List.mem_of_getElem? (i := 21) rfl))) (Or.inr (hw _ (List.mem_of_getElem? (i := 19) rfl))) (by decide) (t := .int) (t' := .int) (by decide) (by decide)))) ((((E_a1.ext E5).wr W6).wr W9).wr W10) (Or.inr ⟨(hw _ (List.mem_of_getElem? (i := 21) rfl)), rfl, hnm⟩) (hw _ (List.mem_of_getElem? (i := 1) rfl)) (ty := .int) (by decide) rfl rfl (g := (mkF m 27 #[.val (.ref a1), .val (.int hY), .val (.int p3)] [(.int p3), (.ref a1)])) rfl rfl (hb hby d1_27)
  have Fw11 := ((((F_bodyBytes_a1.ext E5).other W6 (Or.inr (slot_ne (Or.inr (hw _ (List.mem_of_getElem? (i := 21) rfl))) (Or.inl (hw _ (List.mem_of_getElem? (i := 12) rfl))) (by decide) (t := .int) (t' := (.array .byte)) (by decide) (by decide)))).other W9 (Or.inr (slot_ne (Or.inr (hw _ (List.mem_of_getElem? (i := 21) rfl))) (Or.inl (hw _ (List.mem_of_getElem? (i := 17) rfl))) (by decide) (t := .int) (t' := (.object "com/example/rolegate/rolegate/server/http/RequestReader$Stage")) (by decide) (by decide)))).other W10 (Or.inr (slot_ne (Or.inr (hw _ (List.mem_of_getElem? (i := 21) rfl))) (Or.inr (hw _ (List.mem_of_getElem? (i := 19) rfl))) (by decide) (t := .int) (t' := .int) (by decide) (by decide)))).same W11      -- the field now holds (.int p3)
  have K11 : Keep h0 h11 [a1] := K10.wr W11 (Or.inl (List.mem_of_getElem? (i := 0) rfl))
  have N11 := Fr.snoc X11 N10 g_a1
  obtain ⟨fs, hr, hrun, hended, hW, hsame⟩ := X11.leave (v := none) (fun _ => rfl)
  refine ⟨_, _, pre0 _ ?_, hrun, hended, _, _, rfl, ?_, ⟨_, rfl⟩, hW, hsame.mono (by decide) (by decide)⟩
  -- 4. STEPS
  · show Steps p.tables e below (s₁.setTop (mkF m 0 #[.val (.ref a1), .val (.int hY), .val (.int p3)] [])) _
    refine XS.aloadN X0.here hx rfl (hb hby d1_0) rfl rfl ?_
    show Steps p.tables e below (s₁.setTop (mkF m 1 #[.val (.ref a1), .val (.int hY), .val (.int p3)] [(.ref a1)])) _
    refine st4 _ ?_
    show Steps p.tables e below (T4.setTop (mkF m 4 #[.val (.ref a1), .val (.int hY), .val (.int p3)] [])) _
    refine XS.aloadN X4.here hx rfl (hb hby d1_4) rfl rfl ?_
    show Steps p.tables e below (T4.setTop (mkF m 5 #[.val (.ref a1), .val (.int hY), .val (.int p3)] [(.ref a1)])) _
    refine XS.sipush X4.here hx rfl (hb hby d1_5) ?_
    show Steps p.tables e below (T4.setTop (mkF m 8 #[.val (.ref a1), .val (.int hY), .val (.int p3)] [(.int (512 : Int32)), (.ref a1)])) _
    refine st5 _ ?_
    show Steps p.tables e below (T5.setTop (mkF m 10 #[.val (.ref a1), .val (.int hY), .val (.int p3)] [(.ref b5), (.ref a1)])) _
    refine st6 _ ?_
    show Steps p.tables e below (T6.setTop (mkF m 13 #[.val (.ref a1), .val (.int hY), .val (.int p3)] [])) _
    refine XS.aloadN X6.here hx rfl (hb hby d1_13) rfl rfl ?_
    show Steps p.tables e below (T6.setTop (mkF m 14 #[.val (.ref a1), .val (.int hY), .val (.int p3)] [(.ref a1)])) _
    refine st8 _ ?_
    show Steps p.tables e below (T8.setTop (mkF m 17 #[.val (.ref a1), .val (.int hY), .val (.int p3)] [(.ref hd), (.ref a1)])) _
    refine st9 _ ?_
    show Steps p.tables e below (T9.setTop (mkF m 20 #[.val (.ref a1), .val (.int hY), .val (.int p3)] [])) _
    refine XS.aloadN X9.here hx rfl (hb hby d1_20) rfl rfl ?_
    show Steps p.tables e below (T9.setTop (mkF m 21 #[.val (.ref a1), .val (.int hY), .val (.int p3)] [(.ref a1)])) _
    refine XS.iloadN X9.here hx rfl (hb hby d1_21) rfl ?_
    show Steps p.tables e below (T9.setTop (mkF m 22 #[.val (.ref a1), .val (.int hY), .val (.int p3)] [(.int hY), (.ref a1)])) _
    refine st10 _ ?_
    show Steps p.tables e below (T10.setTop (mkF m 25 #[.val (.ref a1), .val (.int hY), .val (.int p3)] [])) _
    refine XS.aloadN X10.here hx rfl (hb hby d1_25) rfl rfl ?_
    show Steps p.tables e below (T10.setTop (mkF m 26 #[.val (.ref a1), .val (.int hY), .val (.int p3)] [(.ref a1)])) _
    refine XS.iloadN X10.here hx rfl (hb hby d1_26) rfl ?_
    show Steps p.tables e below (T10.setTop (mkF m 27 #[.val (.ref a1), .val (.int hY), .val (.int p3)] [(.int p3), (.ref a1)])) _
    refine st11 _ ?_
    show Steps p.tables e below (T11.setTop (mkF m 30 #[.val (.ref a1), .val (.int hY), .val (.int p3)] [])) _
    exact X11.returnOut hx Bd.returns (hb hby d1_30) hr
  · show Q1 Z a1 hd hY h0 n0 _ T11.heap _
    rw [e11]
    exact ⟨rfl, N11, K11, ((((E_a1.ext E5).wr W6).wr W9).wr W10).wr W11, (Fw9.other W10 (Or.inr (slot_ne (Or.inl (hw _ (List.mem_of_getElem? (i := 17) rfl))) (Or.inr (hw _ (List.mem_of_getElem? (i := 19) rfl))) (by decide) (t := (.object "com/example/rolegate/rolegate/server/http/RequestReader$Stage")) (t' := .int) (by decide) (by decide)))).other W11 (Or.inr (slot_ne (Or.inl (hw _ (List.mem_of_getElem? (i := 17) rfl))) (Or.inr (hw _ (List.mem_of_getElem? (i := 21) rfl))) (by decide) (t := (.object "com/example/rolegate/rolegate/server/http/RequestReader$Stage")) (t' := .int) (by decide) (by decide))), Fw10.other W11 (Or.inr (slot_ne (Or.inr (hw _ (List.mem_of_getElem? (i := 19) rfl))) (Or.inr (hw _ (List.mem_of_getElem? (i := 21) rfl))) (by decide) (t := .int) (t' := .int) (by decide) (by decide))), ((((F_continueDue_a1.ext E5).other W6 (Or.inr (slot_ne (Or.inl (hw _ (List.mem_of_getElem? (i := 28) rfl))) (Or.inl (hw _ (List.mem_of_getElem? (i := 12) rfl))) (by decide) (t := .boolean) (t' := (.array .byte)) (by decide) (by decide)))).other W9 (Or.inr (slot_ne (Or.inl (hw _ (List.mem_of_getElem? (i := 28) rfl))) (Or.inl (hw _ (List.mem_of_getElem? (i := 17) rfl))) (by decide) (t := .boolean) (t' := (.object "com/example/rolegate/rolegate/server/http/RequestReader$Stage")) (by decide) (by decide)))).other W10 (Or.inr (slot_ne (Or.inl (hw _ (List.mem_of_getElem? (i := 28) rfl))) (Or.inr (hw _ (List.mem_of_getElem? (i := 19) rfl))) (by decide) (t := .boolean) (t' := .int) (by decide) (by decide)))).other W11 (Or.inr (slot_ne (Or.inl (hw _ (List.mem_of_getElem? (i := 28) rfl))) (Or.inr (hw _ (List.mem_of_getElem? (i := 21) rfl))) (by decide) (t := .boolean) (t' := .int) (by decide) (by decide))), ((((F_end_a1.ext E5).other W6 (Or.inr (slot_ne (Or.inl (hw _ (List.mem_of_getElem? (i := 50) rfl))) (Or.inl (hw _ (List.mem_of_getElem? (i := 12) rfl))) (by decide) (t := .int) (t' := (.array .byte)) (by decide) (by decide)))).other W9 (Or.inr (slot_ne (Or.inl (hw _ (List.mem_of_getElem? (i := 50) rfl))) (Or.inl (hw _ (List.mem_of_getElem? (i := 17) rfl))) (by decide) (t := .int) (t' := (.object "com/example/rolegate/rolegate/server/http/RequestReader$Stage")) (by decide) (by decide)))).other W10 (Or.inr (slot_ne (Or.inl (hw _ (List.mem_of_getElem? (i := 50) rfl))) (Or.inr (hw _ (List.mem_of_getElem? (i := 19) rfl))) (by decide) (t := .int) (t' := .int) (by decide) (by decide)))).other W11 (Or.inr (slot_ne (Or.inl (hw _ (List.mem_of_getElem? (i := 50) rfl))) (Or.inr (hw _ (List.mem_of_getElem? (i := 21) rfl))) (by decide) (t := .int) (t' := .int) (by decide) (by decide))), ((((F_start_a1.ext E5).other W6 (Or.inr (slot_ne (Or.inl (hw _ (List.mem_of_getElem? (i := 52) rfl))) (Or.inl (hw _ (List.mem_of_getElem? (i := 12) rfl))) (by decide) (t := .int) (t' := (.array .byte)) (by decide) (by decide)))).other W9 (Or.inr (slot_ne (Or.inl (hw _ (List.mem_of_getElem? (i := 52) rfl))) (Or.inl (hw _ (List.mem_of_getElem? (i := 17) rfl))) (by decide) (t := .int) (t' := (.object "com/example/rolegate/rolegate/server/http/RequestReader$Stage")) (by decide) (by decide)))).other W10 (Or.inr (slot_ne (Or.inl (hw _ (List.mem_of_getElem? (i := 52) rfl))) (Or.inr (hw _ (List.mem_of_getElem? (i := 19) rfl))) (by decide) (t := .int) (t' := .int) (by decide) (by decide)))).other W11 (Or.inr (slot_ne (Or.inl (hw _ (List.mem_of_getElem? (i := 52) rfl))) (Or.inr (hw _ (List.mem_of_getElem? (i := 21) rfl))) (by decide) (t := .int) (t' := .int) (by decide) (by decide))), ((((F_scanned_a1.ext E5).other W6 (Or.inr (slot_ne (Or.inl (hw _ (List.mem_of_getElem? (i := 56) rfl))) (Or.inl (hw _ (List.mem_of_getElem? (i := 12) rfl))) (by decide) (t := .int) (t' := (.array .byte)) (by decide) (by decide)))).other W9 (Or.inr (slot_ne (Or.inl (hw _ (List.mem_of_getElem? (i := 56) rfl))) (Or.inl (hw _ (List.mem_of_getElem? (i := 17) rfl))) (by decide) (t := .int) (t' := (.object "com/example/rolegate/rolegate/server/http/RequestReader$Stage")) (by decide) (by decide)))).other W10 (Or.inr (slot_ne (Or.inl (hw _ (List.mem_of_getElem? (i := 56) rfl))) (Or.inr (hw _ (List.mem_of_getElem? (i := 19) rfl))) (by decide) (t := .int) (t' := .int) (by decide) (by decide)))).other W11 (Or.inr (slot_ne (Or.inl (hw _ (List.mem_of_getElem? (i := 56) rfl))) (Or.inr (hw _ (List.mem_of_getElem? (i := 21) rfl))) (by decide) (t := .int) (t' := .int) (by decide) (by decide)))⟩
theorem d3_0 : decode prog_14_method_5_code 0 = .ok (.aload_n 0, 1) := by decide +kernel
theorem d3_1 : decode prog_14_method_5_code 1 = .ok (.getfield 135, 3) := by decide +kernel
theorem d3_4 : decode prog_14_method_5_code 4 = .ok (.istore_n 1, 1) := by decide +kernel
theorem d3_5 : decode prog_14_method_5_code 5 = .ok (.aload_n 0, 1) := by decide +kernel
theorem d3_6 : decode prog_14_method_5_code 6 = .ok (.iconst 0, 1) := by decide +kernel
theorem d3_7 : decode prog_14_method_5_code 7 = .ok (.putfield 135, 3) := by decide +kernel
theorem d3_10 : decode prog_14_method_5_code 10 = .ok (.iload_n 1, 1) := by decide +kernel
theorem d3_11 : decode prog_14_method_5_code 11 = .ok (.ireturn, 1) := by decide +kernel
theorem pn_3 : plainName "com/example/rolegate/rolegate/server/http/RequestReader" = true := by first | (simp [plainName, overriddenIn]; done) | decide +kernel
theorem ef_3 (m : MethodId) (x0 : Addr) : entryFrame m #[(.ref x0)] 2 = mkF m 0 #[.val (.ref x0), .unset] [] := by first | (simp [entryFrame, mkF, argsToLocals, Value.category]; done) | rfl
def Q3 (Z : State) (a1 hd : Addr) (hY : Int32) (h0 : Heap) (n0 : Nat) (v : Option Value) (h : Heap) (L : List Loc) : Prop := v = some (.int (0 : Int32)) ∧ Fr n0 L ∧ Keep h0 h [a1] ∧ own_R Z h a1 hd hY
set_option maxRecDepth 65536 in
set_option maxHeartbeats 40000000 in
theorem rm3 (l : Launch) (Z : State) (a0 : Array Value) (hw : ∀ d ∈ tables_1, d.before a0 Z = true) (ws : List Jvm.Cond) (a1 hd : Addr) (hY : Int32) (h0 : Heap) (n0 : Nat) (Z0 : n0 ≤ h0.size) (O_ : own_R Z h0 a1 hd hY) (g_a1 : n0 ≤ a1) :
    MetFree l (⟨"com/example/rolegate/rolegate/server/http/RequestReader", "takeContinue", "()Z"⟩ : MethodName) (head1 (Jvm.Cond.code (⟨"com/example/rolegate/rolegate/server/http/RequestReader", "takeContinue", "()Z"⟩ : MethodName) prog_14_method_5_code 2 (some .boolean) :: ws) ({ frames := 0, cells := 0, slots := 0, locals := 0 } : Room)) (fun a U => a = #[(.ref a1)] ∧ Z.Warmed39 U.vm ∧ U.heap = h0) (fun _ _ _ _ _ => True) (fun _ U o U' => ∃ v L, o = .returned v ∧ Q3 Z a1 hd hY h0 n0 v U'.heap L ∧ FrameEnd U o U' L ({ frames := 0, cells := 0, slots := 0, locals := 0 } : Room).cells ({ frames := 0, cells := 0, slots := 0, locals := 0 } : Room).slots) := by
  refine MetFree.of_bodySF (plainFor_of_name pn_3) hisR ?_
  intro p e s m args below meth c s₁ Bd hml0 hP hK
  obtain ⟨rfl, hZ, hh⟩ := hP
  have hx := Bd.exec
  have hby := Bd.bytes
  have hml : c.maxLocals = 2 := hml0
  have hown : s.vm.findClass "com/example/rolegate/rolegate/server/http/RequestReader" = some m.cls := findClass_of_methodNamed Bd.named
  have hnm := (name_of_methodNamed Bd.named Bd.method).1
  have X0 : Stand p l e ({ frames := 0, cells := 0, slots := 0, locals := 0 } : Room) s m #[(.ref a1)] below meth c s₁ [] 0 0 := Stand.of_body Bd
  have e0 : s₁.heap = h0 := by rw [← hh, Bd.state]; rfl
  have N0 := Fr.nil n0
  have pre0 : ∀ t, Steps p.tables e below (s₁.setTop (mkF m 0 #[.val (.ref a1), .unset] [])) t → Steps p.tables e below (s₁.setTop (entryFrame m #[(.ref a1)] 2)) t := fun t k => castTop (ef_3 m a1) k
  -- 3. LAWS
  obtain ⟨E_a1, F_stage_a1, F_headBytes_a1, F_continueDue_a1, F_end_a1, F_start_a1, F_scanned_a1⟩ := O_
  obtain ⟨T3, X3, e3, st3⟩ := getF X0 hx hZ hown (host := "") (Or.inl (hw _ (List.mem_of_getElem? (i := 27) rfl))) Via.refl e0 F_continueDue_a1 (g := (mkF m 1 #[.val (.ref a1), .unset] [(.ref a1)])) rfl rfl (hb hby d3_1)
  obtain ⟨T4, h4, X4, e4, W4, st4⟩ := putFN X3 hx hZ hown (hw _ (List.mem_of_getElem? (i := 27) rfl)) Via.refl e3 F_continueDue_a1 E_a1 (Or.inl (hw _ (List.mem_of_getElem? (i := 28) rfl))) (hw _ (List.mem_of_getElem? (i := 1) rfl)) (ty := .boolean) (v' := (.int (0 : Int32))) (by decide) rfl (by decide) (g := (mkF m 7 #[.val (.ref a1), .val (.int (0 : Int32))] [(.int (0 : Int32)), (.ref a1)])) rfl rfl (hb hby d3_7)
  have Fw4 := F_continueDue_a1.same W4      -- the field now holds (.int (0 : Int32))
  have K4 : Keep h0 h4 [a1] := (Keep.refl h0 [a1]).wr W4 (Or.inl (List.mem_of_getElem? (i := 0) rfl))
  have N4 := Fr.snoc X4 N0 g_a1
  obtain ⟨fs, hr, hrun, hended, hW, hsame⟩ := X4.leave (v := some (.int (0 : Int32))) (fun h => by rw [Bd.returns] at h; cases h)
  refine ⟨_, _, pre0 _ ?_, hrun, hended, _, _, rfl, ?_, ⟨_, rfl⟩, hW, hsame.mono (by decide) (by decide)⟩
  -- 4. STEPS
  · show Steps p.tables e below (s₁.setTop (mkF m 0 #[.val (.ref a1), .unset] [])) _
    refine XS.aloadN X0.here hx rfl (hb hby d3_0) rfl rfl ?_
    show Steps p.tables e below (s₁.setTop (mkF m 1 #[.val (.ref a1), .unset] [(.ref a1)])) _
    refine st3 _ ?_
    show Steps p.tables e below (T3.setTop (mkF m 4 #[.val (.ref a1), .unset] [(.int (0 : Int32))])) _
    refine XS.istoreN X3.here hx rfl (hb hby d3_4) rfl (l' := #[.val (.ref a1), .val (.int (0 : Int32))]) rfl ?_
    show Steps p.tables e below (T3.setTop (mkF m 5 #[.val (.ref a1), .val (.int (0 : Int32))] [])) _
    refine XS.aloadN X3.here hx rfl (hb hby d3_5) rfl rfl ?_
    show Steps p.tables e below (T3.setTop (mkF m 6 #[.val (.ref a1), .val (.int (0 : Int32))] [(.ref a1)])) _
    refine XS.iconst X3.here hx rfl (hb hby d3_6) ?_
    show Steps p.tables e below (T3.setTop (mkF m 7 #[.val (.ref a1), .val (.int (0 : Int32))] [(.int (0 : Int32)), (.ref a1)])) _
    refine st4 _ ?_
    show Steps p.tables e below (T4.setTop (mkF m 10 #[.val (.ref a1), .val (.int (0 : Int32))] [])) _
    refine XS.iloadN X4.here hx rfl (hb hby d3_10) rfl ?_
    show Steps p.tables e below (T4.setTop (mkF m 11 #[.val (.ref a1), .val (.int (0 : Int32))] [(.int (0 : Int32))])) _
    exact retN X4 hx (t := .boolean) Bd.returns (by simp) (hb hby d3_11) hr
  · show Q3 Z a1 hd hY h0 n0 _ T4.heap _
    rw [e4]
    exact ⟨rfl, N4, K4, E_a1.wr W4, (F_stage_a1.other W4 (Or.inr (slot_ne (Or.inl (hw _ (List.mem_of_getElem? (i := 17) rfl))) (Or.inl (hw _ (List.mem_of_getElem? (i := 28) rfl))) (by decide) (t := (.object "com/example/rolegate/rolegate/server/http/RequestReader$Stage")) (t' := .boolean) (by decide) (by decide)))), (F_headBytes_a1.other W4 (Or.inr (slot_ne (Or.inr (hw _ (List.mem_of_getElem? (i := 19) rfl))) (Or.inl (hw _ (List.mem_of_getElem? (i := 28) rfl))) (by decide) (t := .int) (t' := .boolean) (by decide) (by decide)))), Fw4, (F_end_a1.other W4 (Or.inr (slot_ne (Or.inl (hw _ (List.mem_of_getElem? (i := 50) rfl))) (Or.inl (hw _ (List.mem_of_getElem? (i := 28) rfl))) (by decide) (t := .int) (t' := .boolean) (by decide) (by decide)))), (F_start_a1.other W4 (Or.inr (slot_ne (Or.inl (hw _ (List.mem_of_getElem? (i := 52) rfl))) (Or.inl (hw _ (List.mem_of_getElem? (i := 28) rfl))) (by decide) (t := .int) (t' := .boolean) (by decide) (by decide)))), (F_scanned_a1.other W4 (Or.inr (slot_ne (Or.inl (hw _ (List.mem_of_getElem? (i := 56) rfl))) (Or.inl (hw _ (List.mem_of_getElem? (i := 28) rfl))) (by decide) (t := .int) (t' := .boolean) (by decide) (by decide))))⟩
theorem d5_0 : decode jdk_37_method_2_code 0 = .ok (.aload_n 0, 1) := by decide +kernel
theorem d5_1 : decode jdk_37_method_2_code 1 = .ok (.getfield 7, 3) := by decide +kernel
theorem d5_4 : decode jdk_37_method_2_code 4 = .ok (.ireturn, 1) := by decide +kernel
theorem pn_5 : plainName "java/lang/Enum" = true := by first | (simp [plainName, overriddenIn]; done) | decide +kernel
theorem ef_5 (m : MethodId) (x0 : Addr) : entryFrame m #[(.ref x0)] 1 = mkF m 0 #[.val (.ref x0)] [] := by first | (simp [entryFrame, mkF, argsToLocals, Value.category]; done) | rfl
def Q5 (Z : State) (a1 : Addr) (h0 : Heap) (n0 : Nat) (v : Option Value) (h : Heap) (L : List Loc) : Prop := v = some (.int (0 : Int32)) ∧ Fr n0 L ∧ h = h0
set_option maxRecDepth 65536 in
set_option maxHeartbeats 40000000 in
theorem rm5 (l : Launch) (Z : State) (a0 : Array Value) (hw : ∀ d ∈ tables_1, d.before a0 Z = true) (ws : List Jvm.Cond) (a1 : Addr) (h0 : Heap) (n0 : Nat) (Z0 : n0 ≤ h0.size) (F_ordinal_a1 : Fld Z h0 a1 "java/lang/Enum" "ordinal" "I" (.int (0 : Int32))) :
    MetFree l (⟨"java/lang/Enum", "ordinal", "()I"⟩ : MethodName) (head1 (Jvm.Cond.code (⟨"java/lang/Enum", "ordinal", "()I"⟩ : MethodName) jdk_37_method_2_code 1 (some .int) :: ws) ({ frames := 0, cells := 0, slots := 0, locals := 0 } : Room)) (fun a U => a = #[(.ref a1)] ∧ Z.Warmed39 U.vm ∧ U.heap = h0) (fun _ _ _ _ _ => True) (fun _ U o U' => ∃ v L, o = .returned v ∧ Q5 Z a1 h0 n0 v U'.heap L ∧ FrameEnd U o U' L ({ frames := 0, cells := 0, slots := 0, locals := 0 } : Room).cells ({ frames := 0, cells := 0, slots := 0, locals := 0 } : Room).slots) := by
  refine MetFree.of_bodySF (plainFor_of_name pn_5) hisR ?_
  intro p e s m args below meth c s₁ Bd hml0 hP hK
  obtain ⟨rfl, hZ, hh⟩ := hP
  have hx := Bd.exec
  have hby := Bd.bytes
  have hml : c.maxLocals = 1 := hml0
  have hown : s.vm.findClass "java/lang/Enum" = some m.cls := findClass_of_methodNamed Bd.named
  have hnm := (name_of_methodNamed Bd.named Bd.method).1
  have X0 : Stand p l e ({ frames := 0, cells := 0, slots := 0, locals := 0 } : Room) s m #[(.ref a1)] below meth c s₁ [] 0 0 := Stand.of_body Bd
  have e0 : s₁.heap = h0 := by rw [← hh, Bd.state]; rfl
  have N0 := Fr.nil n0
  have pre0 : ∀ t, Steps p.tables e below (s₁.setTop (mkF m 0 #[.val (.ref a1)] [])) t → Steps p.tables e below (s₁.setTop (entryFrame m #[(.ref a1)] 1)) t := fun t k => castTop (ef_5 m a1) k
  -- 3. LAWS
  obtain ⟨T3, X3, e3, st3⟩ := getF X0 hx hZ hown (host := "") (Or.inl (hw _ (List.mem_of_getElem? (i := 43) rfl))) Via.refl e0 F_ordinal_a1 (g := (mkF m 1 #[.val (.ref a1)] [(.ref a1)])) rfl rfl (hb hby d5_1)
  obtain ⟨fs, hr, hrun, hended, hW, hsame⟩ := X3.leave (v := some (.int (0 : Int32))) (fun h => by rw [Bd.returns] at h; cases h)
  refine ⟨_, _, pre0 _ ?_, hrun, hended, _, _, rfl, ?_, ⟨_, rfl⟩, hW, hsame.mono (by decide) (by decide)⟩
  -- 4. STEPS
  · show Steps p.tables e below (s₁.setTop (mkF m 0 #[.val (.ref a1)] [])) _
    refine XS.aloadN X0.here hx rfl (hb hby d5_0) rfl rfl ?_
    show Steps p.tables e below (s₁.setTop (mkF m 1 #[.val (.ref a1)] [(.ref a1)])) _
    refine st3 _ ?_
    show Steps p.tables e below (T3.setTop (mkF m 4 #[.val (.ref a1)] [(.int (0 : Int32))])) _
    exact retI X3 hx Bd.returns (hb hby d5_4) hr      -- retI stands in the head ('lawwalk <made dir>' prints it)
  · show Q5 Z a1 h0 n0 _ T3.heap _
    rw [e3]
    exact ⟨rfl, N0, rfl⟩
theorem d7_0 : decode jdk_29_method_65_code 0 = .ok (.iload_n 0, 1) := by decide +kernel
theorem d7_1 : decode jdk_29_method_65_code 1 = .ok (.iload_n 1, 1) := by decide +kernel
theorem d7_2 : decode jdk_29_method_65_code 2 = .ok (.if_icmp .lt 7, 3) := by decide +kernel
theorem d7_5 : decode jdk_29_method_65_code 5 = .ok (.iload_n 0, 1) := by decide +kernel
theorem d7_6 : decode jdk_29_method_65_code 6 = .ok (.goto 4, 3) := by decide +kernel
theorem d7_10 : decode jdk_29_method_65_code 10 = .ok (.ireturn, 1) := by decide +kernel
theorem ef_7 (m : MethodId) (x0 : Int32) (x1 : Int32) : entryFrame m #[(.int x0), (.int x1)] 2 = mkF m 0 #[.val (.int x0), .val (.int x1)] [] := by first | (simp [entryFrame, mkF, argsToLocals, Value.category]; done) | rfl
def Q7 (Z : State) (p1 : Int32) (p2 : Int32) (h0 : Heap) (n0 : Nat) (v : Option Value) (h : Heap) (L : List Loc) : Prop := v = some (.int p1) ∧ Fr n0 L ∧ h = h0
set_option maxRecDepth 65536 in
set_option maxHeartbeats 40000000 in
theorem rm7 (l : Launch) (Z : State) (a0 : Array Value) (hw : ∀ d ∈ tables_1, d.before a0 Z = true) (ws : List Jvm.Cond) (p1 : Int32) (p2 : Int32) (h0 : Heap) (n0 : Nat) (Z0 : n0 ≤ h0.size) (hc2 : ¬ (p1 < p2)) :
    MetFree l (⟨"java/lang/Math", "max", "(II)I"⟩ : MethodName) (head1 (Jvm.Cond.code (⟨"java/lang/Math", "max", "(II)I"⟩ : MethodName) jdk_29_method_65_code 2 (some .int) :: ws) ({ frames := 0, cells := 0, slots := 0, locals := 0 } : Room)) (fun a U => a = #[(.int p1), (.int p2)] ∧ Z.Warmed39 U.vm ∧ U.heap = h0) (fun _ _ _ _ _ => True) (fun _ U o U' => ∃ v L, o = .returned v ∧ Q7 Z p1 p2 h0 n0 v U'.heap L ∧ FrameEnd U o U' L ({ frames := 0, cells := 0, slots := 0, locals := 0 } : Room).cells ({ frames := 0, cells := 0, slots := 0, locals := 0 } : Room).slots) := by
  refine MetFree.of_bodySF (Jvm.Free.JP.mathPlain rfl (by decide +kernel)) hisR ?_
  intro p e s m args below meth c s₁ Bd hml0 hP hK
  obtain ⟨rfl, hZ, hh⟩ := hP
  have hx := Bd.exec
  have hby := Bd.bytes
  have hml : c.maxLocals = 2 := hml0
  have hown : s.vm.findClass "java/lang/Math" = some m.cls := findClass_of_methodNamed Bd.named
  have hnm := (name_of_methodNamed Bd.named Bd.method).1
  have X0 : Stand p l e ({ frames := 0, cells := 0, slots := 0, locals := 0 } : Room) s m #[(.int p1), (.int p2)] below meth c s₁ [] 0 0 := Stand.of_body Bd
  have e0 : s₁.heap = h0 := by rw [← hh, Bd.state]; rfl
  have N0 := Fr.nil n0
  have pre0 : ∀ t, Steps p.tables e below (s₁.setTop (mkF m 0 #[.val (.int p1), .val (.int p2)] [])) t → Steps p.tables e below (s₁.setTop (entryFrame m #[(.int p1), (.int p2)] 2)) t := fun t k => castTop (ef_7 m p1 p2) k
  -- 3. LAWS

  obtain ⟨fs, hr, hrun, hended, hW, hsame⟩ := X0.leave (v := some (.int p1)) (fun h => by rw [Bd.returns] at h; cases h)
  refine ⟨_, _, pre0 _ ?_, hrun, hended, _, _, rfl, ?_, ⟨_, rfl⟩, hW, hsame.mono (by decide) (by decide)⟩
  -- 4. STEPS
  · show Steps p.tables e below (s₁.setTop (mkF m 0 #[.val (.int p1), .val (.int p2)] [])) _
    refine XS.iloadN X0.here hx rfl (hb hby d7_0) rfl ?_
    show Steps p.tables e below (s₁.setTop (mkF m 1 #[.val (.int p1), .val (.int p2)] [(.int p1)])) _
    refine XS.iloadN X0.here hx rfl (hb hby d7_1) rfl ?_
    show Steps p.tables e below (s₁.setTop (mkF m 2 #[.val (.int p1), .val (.int p2)] [(.int p2), (.int p1)])) _
    refine XS.icmpNo X0.here hx rfl (hb hby d7_2) rfl (flt hc2).1 ?_
    show Steps p.tables e below (s₁.setTop (mkF m 5 #[.val (.int p1), .val (.int p2)] [])) _
    refine XS.iloadN X0.here hx rfl (hb hby d7_5) rfl ?_
    show Steps p.tables e below (s₁.setTop (mkF m 6 #[.val (.int p1), .val (.int p2)] [(.int p1)])) _
    refine XS.goto X0.here hx rfl (pc0 := 6) (pc' := 10) rfl (hb hby d7_6) (by decide) (by decide) ?_
    show Steps p.tables e below (s₁.setTop (mkF m 10 #[.val (.int p1), .val (.int p2)] [(.int p1)])) _
    exact retI X0 hx Bd.returns (hb hby d7_10) hr      -- retI stands in the head ('lawwalk <made dir>' prints it)
  · show Q7 Z p1 p2 h0 n0 _ s₁.heap _
    rw [e0]
    exact ⟨rfl, N0, rfl⟩
theorem d8_0 : decode prog_14_method_13_code 0 = .ok (.iload_n 2, 1) := by decide +kernel
theorem d8_1 : decode prog_14_method_13_code 1 = .ok (.istore 4, 2) := by decide +kernel
theorem d8_3 : decode prog_14_method_13_code 3 = .ok (.iload 4, 2) := by decide +kernel
theorem d8_5 : decode prog_14_method_13_code 5 = .ok (.aload_n 1, 1) := by decide +kernel
theorem d8_6 : decode prog_14_method_13_code 6 = .ok (.arraylength, 1) := by decide +kernel
theorem d8_7 : decode prog_14_method_13_code 7 = .ok (.iadd, 1) := by decide +kernel
theorem d8_8 : decode prog_14_method_13_code 8 = .ok (.iload_n 3, 1) := by decide +kernel
theorem d8_9 : decode prog_14_method_13_code 9 = .ok (.if_icmp .gt 52, 3) := by decide +kernel
theorem d8_61 : decode prog_14_method_13_code 61 = .ok (.iconst (-1), 1) := by decide +kernel
theorem d8_62 : decode prog_14_method_13_code 62 = .ok (.ireturn, 1) := by decide +kernel
theorem pn_8 : plainName "com/example/rolegate/rolegate/server/http/RequestReader" = true := by first | (simp [plainName, overriddenIn]; done) | decide +kernel
theorem ef_8 (m : MethodId) (x0 : Addr) (x1 : Addr) (x2 : Int32) (x3 : Int32) : entryFrame m #[(.ref x0), (.ref x1), (.int x2), (.int x3)] 6 = mkF m 0 #[.val (.ref x0), .val (.ref x1), .val (.int x2), .val (.int x3), .unset, .unset] [] := by first | (simp [entryFrame, mkF, argsToLocals, Value.category]; done) | rfl
def Q8 (Z : State) (a1 : Addr) (a2 : Addr) (p3 : Int32) (p4 : Int32) (cl_a2 : Cell) (z_a2 : Int32) (h0 : Heap) (n0 : Nat) (v : Option Value) (h : Heap) (L : List Loc) : Prop := v = some (.int (-1 : Int32)) ∧ Fr n0 L ∧ h = h0
set_option maxRecDepth 65536 in
set_option maxHeartbeats 40000000 in
theorem rm8 (l : Launch) (Z : State) (a0 : Array Value) (hw : ∀ d ∈ tables_1, d.before a0 Z = true) (ws : List Jvm.Cond) (a1 : Addr) (a2 : Addr) (p3 : Int32) (p4 : Int32) (cl_a2 : Cell) (z_a2 : Int32) (h0 : Heap) (n0 : Nat) (Z0 : n0 ≤ h0.size) (Ar_a2 : Arr Z h0 a2 cl_a2 .byte) (S_a2 : cl_a2.slots.size = z_a2.toNatClampNeg) (N_a2 : ¬ z_a2 < 0) (hc9 : p4 < (p3 + z_a2)) :
    MetFree l (⟨"com/example/rolegate/rolegate/server/http/RequestReader", "indexOf", "([BII)I"⟩ : MethodName) (head1 (Jvm.Cond.code (⟨"com/example/rolegate/rolegate/server/http/RequestReader", "indexOf", "([BII)I"⟩ : MethodName) prog_14_method_13_code 6 (some .int) :: ws) ({ frames := 0, cells := 0, slots := 0, locals := 0 } : Room)) (fun a U => a = #[(.ref a1), (.ref a2), (.int p3), (.int p4)] ∧ Z.Warmed39 U.vm ∧ U.heap = h0) (fun _ _ _ _ _ => True) (fun _ U o U' => ∃ v L, o = .returned v ∧ Q8 Z a1 a2 p3 p4 cl_a2 z_a2 h0 n0 v U'.heap L ∧ FrameEnd U o U' L ({ frames := 0, cells := 0, slots := 0, locals := 0 } : Room).cells ({ frames := 0, cells := 0, slots := 0, locals := 0 } : Room).slots) := by
  refine MetFree.of_bodySF (plainFor_of_name pn_8) hisR ?_
  intro p e s m args below meth c s₁ Bd hml0 hP hK
  obtain ⟨rfl, hZ, hh⟩ := hP
  have hx := Bd.exec
  have hby := Bd.bytes
  have hml : c.maxLocals = 6 := hml0
  have hown : s.vm.findClass "com/example/rolegate/rolegate/server/http/RequestReader" = some m.cls := findClass_of_methodNamed Bd.named
  have hnm := (name_of_methodNamed Bd.named Bd.method).1
  have X0 : Stand p l e ({ frames := 0, cells := 0, slots := 0, locals := 0 } : Room) s m #[(.ref a1), (.ref a2), (.int p3), (.int p4)] below meth c s₁ [] 0 0 := Stand.of_body Bd
  have e0 : s₁.heap = h0 := by rw [← hh, Bd.state]; rfl
  have N0 := Fr.nil n0
  have pre0 : ∀ t, Steps p.tables e below (s₁.setTop (mkF m 0 #[.val (.ref a1), .val (.ref a2), .val (.int p3), .val (.int p4), .unset, .unset] [])) t → Steps p.tables e below (s₁.setTop (entryFrame m #[(.ref a1), (.ref a2), (.int p3), (.int p4)] 6)) t := fun t k => castTop (ef_8 m a1 a2 p3 p4) k
  -- 3. LAWS

  obtain ⟨fs, hr, hrun, hended, hW, hsame⟩ := X0.leave (v := some (.int (-1 : Int32))) (fun h => by rw [Bd.returns] at h; cases h)
  refine ⟨_, _, pre0 _ ?_, hrun, hended, _, _, rfl, ?_, ⟨_, rfl⟩, hW, hsame.mono (by decide) (by decide)⟩
  -- 4. STEPS
  · show Steps p.tables e below (s₁.setTop (mkF m 0 #[.val (.ref a1), .val (.ref a2), .val (.int p3), .val (.int p4), .unset, .unset] [])) _
    refine XS.iloadN X0.here hx rfl (hb hby d8_0) rfl ?_
    show Steps p.tables e below (s₁.setTop (mkF m 1 #[.val (.ref a1), .val (.ref a2), .val (.int p3), .val (.int p4), .unset, .unset] [(.int p3)])) _
    refine XS.istore X0.here hx rfl (hb hby d8_1) rfl (l' := #[.val (.ref a1), .val (.ref a2), .val (.int p3), .val (.int p4), .val (.int p3), .unset]) rfl ?_
    show Steps p.tables e below (s₁.setTop (mkF m 3 #[.val (.ref a1), .val (.ref a2), .val (.int p3), .val (.int p4), .val (.int p3), .unset] [])) _
    refine XS.iload X0.here hx rfl (hb hby d8_3) rfl ?_
    show Steps p.tables e below (s₁.setTop (mkF m 5 #[.val (.ref a1), .val (.ref a2), .val (.int p3), .val (.int p4), .val (.int p3), .unset] [(.int p3)])) _
    refine XS.aloadN X0.here hx rfl (hb hby d8_5) rfl rfl ?_
    show Steps p.tables e below (s₁.setTop (mkF m 6 #[.val (.ref a1), .val (.ref a2), .val (.int p3), .val (.int p4), .val (.int p3), .unset] [(.ref a2), (.int p3)])) _
    refine X0.arraylength hx (by rw [e0]; exact Ar_a2.1) (State.isArrayOf_alike hZ.alike Ar_a2.2.1) (g := (mkF m 6 #[.val (.ref a1), .val (.ref a2), .val (.int p3), .val (.int p4), .val (.int p3), .unset] [(.ref a2), (.int p3)])) rfl rfl (hb hby d8_6) _ ?_
    rw [len_of S_a2 N_a2]
    show Steps p.tables e below (s₁.setTop (mkF m 7 #[.val (.ref a1), .val (.ref a2), .val (.int p3), .val (.int p4), .val (.int p3), .unset] [(.int z_a2), (.int p3)])) _
    refine XS.iadd X0.here hx rfl (hb hby d8_7) rfl ?_
    show Steps p.tables e below (s₁.setTop (mkF m 8 #[.val (.ref a1), .val (.ref a2), .val (.int p3), .val (.int p4), .val (.int p3), .unset] [(.int (p3 + z_a2))])) _
    refine XS.iloadN X0.here hx rfl (hb hby d8_8) rfl ?_
    show Steps p.tables e below (s₁.setTop (mkF m 9 #[.val (.ref a1), .val (.ref a2), .val (.int p3), .val (.int p4), .val (.int p3), .unset] [(.int p4), (.int (p3 + z_a2))])) _
    refine XS.icmpYes X0.here hx rfl (pc0 := 9) (pc' := 61) rfl (hb hby d8_9) rfl (tlt hc9).2.2.1 (by decide) (by decide) ?_
    show Steps p.tables e below (s₁.setTop (mkF m 61 #[.val (.ref a1), .val (.ref a2), .val (.int p3), .val (.int p4), .val (.int p3), .unset] [])) _
    refine XS.iconst X0.here hx rfl (hb hby d8_61) ?_
    show Steps p.tables e below (s₁.setTop (mkF m 62 #[.val (.ref a1), .val (.ref a2), .val (.int p3), .val (.int p4), .val (.int p3), .unset] [(.int (-1 : Int32))])) _
    exact retI X0 hx Bd.returns (hb hby d8_62) hr      -- retI stands in the head ('lawwalk <made dir>' prints it)
  · show Q8 Z a1 a2 p3 p4 cl_a2 z_a2 h0 n0 _ s₁.heap _
    rw [e0]
    exact ⟨rfl, N0, rfl⟩
theorem d6_0 : decode prog_14_method_6_code 0 = .ok (.aload_n 0, 1) := by decide +kernel
theorem d6_1 : decode prog_14_method_6_code 1 = .ok (.getfield 35, 3) := by decide +kernel
theorem d6_4 : decode prog_14_method_6_code 4 = .ok (.aload_n 0, 1) := by decide +kernel
theorem d6_5 : decode prog_14_method_6_code 5 = .ok (.getfield 38, 3) := by decide +kernel
theorem d6_8 : decode prog_14_method_6_code 8 = .ok (.isub, 1) := by decide +kernel
theorem d6_9 : decode prog_14_method_6_code 9 = .ok (.iconst 2, 1) := by decide +kernel
theorem d6_10 : decode prog_14_method_6_code 10 = .ok (.if_icmp .lt 60, 3) := by decide +kernel
theorem d6_70 : decode prog_14_method_6_code 70 = .ok (.aload_n 0, 1) := by decide +kernel
theorem d6_71 : decode prog_14_method_6_code 71 = .ok (.getstatic 141, 3) := by decide +kernel
theorem d6_74 : decode prog_14_method_6_code 74 = .ok (.aload_n 0, 1) := by decide +kernel
theorem d6_75 : decode prog_14_method_6_code 75 = .ok (.getfield 38, 3) := by decide +kernel
theorem d6_78 : decode prog_14_method_6_code 78 = .ok (.iconst 0, 1) := by decide +kernel
theorem d6_79 : decode prog_14_method_6_code 79 = .ok (.aload_n 0, 1) := by decide +kernel
theorem d6_80 : decode prog_14_method_6_code 80 = .ok (.getfield 138, 3) := by decide +kernel
theorem d6_83 : decode prog_14_method_6_code 83 = .ok (.iconst 3, 1) := by decide +kernel
theorem d6_84 : decode prog_14_method_6_code 84 = .ok (.isub, 1) := by decide +kernel
theorem d6_85 : decode prog_14_method_6_code 85 = .ok (.invokestatic 41, 3) := by decide +kernel
theorem d6_88 : decode prog_14_method_6_code 88 = .ok (.iadd, 1) := by decide +kernel
theorem d6_89 : decode prog_14_method_6_code 89 = .ok (.aload_n 0, 1) := by decide +kernel
theorem d6_90 : decode prog_14_method_6_code 90 = .ok (.getfield 35, 3) := by decide +kernel
theorem d6_93 : decode prog_14_method_6_code 93 = .ok (.invokevirtual 144, 3) := by decide +kernel
theorem d6_96 : decode prog_14_method_6_code 96 = .ok (.istore_n 1, 1) := by decide +kernel
theorem d6_97 : decode prog_14_method_6_code 97 = .ok (.iload_n 1, 1) := by decide +kernel
theorem d6_98 : decode prog_14_method_6_code 98 = .ok (.ifCond .ge 34, 3) := by decide +kernel
theorem d6_101 : decode prog_14_method_6_code 101 = .ok (.aload_n 0, 1) := by decide +kernel
theorem d6_102 : decode prog_14_method_6_code 102 = .ok (.aload_n 0, 1) := by decide +kernel
theorem d6_103 : decode prog_14_method_6_code 103 = .ok (.getfield 35, 3) := by decide +kernel
theorem d6_106 : decode prog_14_method_6_code 106 = .ok (.aload_n 0, 1) := by decide +kernel
theorem d6_107 : decode prog_14_method_6_code 107 = .ok (.getfield 38, 3) := by decide +kernel
theorem d6_110 : decode prog_14_method_6_code 110 = .ok (.isub, 1) := by decide +kernel
theorem d6_111 : decode prog_14_method_6_code 111 = .ok (.putfield 138, 3) := by decide +kernel
theorem d6_114 : decode prog_14_method_6_code 114 = .ok (.aload_n 0, 1) := by decide +kernel
theorem d6_115 : decode prog_14_method_6_code 115 = .ok (.getfield 138, 3) := by decide +kernel
theorem d6_118 : decode prog_14_method_6_code 118 = .ok (.aload_n 0, 1) := by decide +kernel
theorem d6_119 : decode prog_14_method_6_code 119 = .ok (.getfield 22, 3) := by decide +kernel
theorem d6_122 : decode prog_14_method_6_code 122 = .ok (.if_icmp .le 8, 3) := by decide +kernel
theorem d6_130 : decode prog_14_method_6_code 130 = .ok (.iconst 0, 1) := by decide +kernel
theorem d6_131 : decode prog_14_method_6_code 131 = .ok (.ireturn, 1) := by decide +kernel
theorem pn_6 : plainName "com/example/rolegate/rolegate/server/http/RequestReader" = true := by first | (simp [plainName, overriddenIn]; done) | decide +kernel
theorem pd_6_5 : parseMethodDescriptor "(II)I" = some ⟨[.int, .int], some .int⟩ := by decide +kernel
theorem pd_6_6 : parseMethodDescriptor "([BII)I" = some ⟨[(.array .byte), .int, .int], some .int⟩ := by decide +kernel
theorem ef_6 (m : MethodId) (x0 : Addr) : entryFrame m #[(.ref x0)] 2 = mkF m 0 #[.val (.ref x0), .unset] [] := by first | (simp [entryFrame, mkF, argsToLocals, Value.category]; done) | rfl
def Q6 (Z : State) (a1 hd : Addr) (hY : Int32) (h0 : Heap) (n0 : Nat) (v : Option Value) (h : Heap) (L : List Loc) : Prop := v = some (.int (0 : Int32)) ∧ Fr n0 L ∧ Keep h0 h [a1] ∧ own_R Z h a1 hd hY
set_option maxRecDepth 65536 in
set_option maxHeartbeats 40000000 in
theorem rm6 (l : Launch) (Z : State) (a0 : Array Value) (hw : ∀ d ∈ tables_1, d.before a0 Z = true) (ws : List Jvm.Cond) (a1 hd : Addr) (hY : Int32) (w6 : Addr) (cl : Cell) (h0 : Heap) (n0 : Nat) (Z0 : n0 ≤ h0.size) (O_ : own_R Z h0 a1 hd hY) (g_a1 : n0 ≤ a1) (S_HEAD_END : Sta Z h0 "com/example/rolegate/rolegate/server/http/RequestReader" "HEAD_END" "[B" (.ref w6)) (Ar_6 : Arr Z h0 w6 cl .byte) (hsz : cl.slots.size = 4) (hnb : ¬ hY < 0) :
    MetFree l (⟨"com/example/rolegate/rolegate/server/http/RequestReader", "readHead", "()Z"⟩ : MethodName) (head1 (Jvm.Cond.code (⟨"com/example/rolegate/rolegate/server/http/RequestReader", "readHead", "()Z"⟩ : MethodName) prog_14_method_6_code 2 (some .boolean) :: ws) ({ frames := 1, cells := 0, slots := 0, locals := 17 } : Room)) (fun a U => a = #[(.ref a1)] ∧ Z.Warmed39 U.vm ∧ U.heap = h0) (fun _ _ _ _ _ => True) (fun _ U o U' => ∃ v L, o = .returned v ∧ Q6 Z a1 hd hY h0 n0 v U'.heap L ∧ FrameEnd U o U' L ({ frames := 1, cells := 0, slots := 0, locals := 17 } : Room).cells ({ frames := 1, cells := 0, slots := 0, locals := 17 } : Room).slots) := by
  refine MetFree.of_bodySF (plainFor_of_name pn_6) hisR ?_
  intro p e s m args below meth c s₁ Bd hml0 hP hK
  obtain ⟨rfl, hZ, hh⟩ := hP
  have hx := Bd.exec
  have hby := Bd.bytes
  have hml : c.maxLocals = 2 := hml0
  have hown : s.vm.findClass "com/example/rolegate/rolegate/server/http/RequestReader" = some m.cls := findClass_of_methodNamed Bd.named
  have hnm := (name_of_methodNamed Bd.named Bd.method).1
  have X0 : Stand p l e ({ frames := 1, cells := 0, slots := 0, locals := 17 } : Room) s m #[(.ref a1)] below meth c s₁ [] 0 0 := Stand.of_body Bd
  have e0 : s₁.heap = h0 := by rw [← hh, Bd.state]; rfl
  have N0 := Fr.nil n0
  have pre0 : ∀ t, Steps p.tables e below (s₁.setTop (mkF m 0 #[.val (.ref a1), .unset] [])) t → Steps p.tables e below (s₁.setTop (entryFrame m #[(.ref a1)] 2)) t := fun t k => castTop (ef_6 m a1) k
  -- 3. LAWS
  obtain ⟨E_a1, F_stage_a1, F_headBytes_a1, F_continueDue_a1, F_end_a1, F_start_a1, F_scanned_a1⟩ := O_
  have hc10 : ((0 : Int32) - (0 : Int32)) < (2 : Int32) := by decide
  have hc122 : ¬ (hY < ((0 : Int32) - (0 : Int32))) := by rw [show ((0 : Int32) - (0 : Int32)) = 0 from by decide]; exact hnb
  obtain ⟨T3, X3, e3, st3⟩ := getF X0 hx hZ hown (host := "") (Or.inl (hw _ (List.mem_of_getElem? (i := 49) rfl))) Via.refl e0 F_end_a1 (g := (mkF m 1 #[.val (.ref a1), .unset] [(.ref a1)])) rfl rfl (hb hby d6_1)
  obtain ⟨T5, X5, e5, st5⟩ := getF X3 hx hZ hown (host := "") (Or.inl (hw _ (List.mem_of_getElem? (i := 51) rfl))) Via.refl e3 F_start_a1 (g := (mkF m 5 #[.val (.ref a1), .unset] [(.ref a1), (.int (0 : Int32))])) rfl rfl (hb hby d6_5)
  obtain ⟨T7, X7, e7, st7⟩ := getS2 X5 hx hZ hown (host := "") (Or.inl (hw _ (List.mem_of_getElem? (i := 53) rfl))) Via.refl e5 S_HEAD_END (g := (mkF m 71 #[.val (.ref a1), .unset] [(.ref a1)])) rfl (hb hby d6_71)
  obtain ⟨T8, X8, e8, st8⟩ := getF X7 hx hZ hown (host := "") (Or.inl (hw _ (List.mem_of_getElem? (i := 51) rfl))) Via.refl e7 F_start_a1 (g := (mkF m 75 #[.val (.ref a1), .unset] [(.ref a1), (.ref w6), (.ref a1)])) rfl rfl (hb hby d6_75)
  obtain ⟨T10, X10, e10, st10⟩ := getF X8 hx hZ hown (host := "") (Or.inl (hw _ (List.mem_of_getElem? (i := 55) rfl))) Via.refl e8 F_scanned_a1 (g := (mkF m 80 #[.val (.ref a1), .unset] [(.ref a1), (.int (0 : Int32)), (.int (0 : Int32)), (.ref w6), (.ref a1)])) rfl rfl (hb hby d6_80)
  -- pc 85: java/lang/Math.max by its contract rm7
  obtain ⟨_, _, ⟨T11, L11, k11, n11⟩, -, X11, ⟨Lc11, hQ11, l11, y11, z11⟩, st11⟩ := Jvm.LawKit.callS X10 hx (y := (⟨"java/lang/Math", "max", "(II)I"⟩ : MethodName)) hown (mvT hZ (hw _ (List.mem_of_getElem? (i := 57) rfl))) (mvT hZ (hw _ (List.mem_of_getElem? (i := 58) rfl))) (mvT hZ (hw _ (List.mem_of_getElem? (i := 59) rfl))) (mvT hZ (hw _ (List.mem_of_getElem? (i := 60) rfl))) (by decide) (backOf (W := 3) (rm7 l Z a0 hw [] (0 : Int32) ((0 : Int32) - (3 : Int32)) h0 n0 Z0 (by decide)) hZ (hw _ (List.mem_of_getElem? (i := 60) rfl)) (hw _ (List.mem_of_getElem? (i := 59) rfl)) (by decide) (by decide)) (g := (mkF m 85 #[.val (.ref a1), .unset] [(.int ((0 : Int32) - (3 : Int32))), (.int (0 : Int32)), (.int (0 : Int32)), (.ref w6), (.ref a1)])) rfl (by rw [hml]; rfl) (argsL := [(.int (0 : Int32)), (.int ((0 : Int32) - (3 : Int32)))]) (rest := [(.int (0 : Int32)), (.ref w6), (.ref a1)]) (lenOf pd_6_5 rfl) rfl (by show 2 * 0 + _ ≤ _; exact Nat.le_of_eq rfl) (hb hby d6_85) (fun _ _ => ⟨rfl, e10, (by decide : 0 + 0 ≤ _), (by decide : 0 + 0 ≤ _)⟩)
  dsimp only [Pt.U, Pt.locs, Pt.cells, Pt.slots] at X11 l11 y11 z11 st11 hQ11
  subst l11 y11 z11
  obtain ⟨rfl, N11q, e11⟩ := hQ11      -- what it returned, that it wrote nothing old, and the rest of your Q7
  have N11 := Fr.app N0 N11q
  obtain ⟨T13, X13, e13, st13⟩ := getF X11 hx hZ hown (host := "") (Or.inl (hw _ (List.mem_of_getElem? (i := 49) rfl))) Via.refl e11 (F_end_a1) (g := (mkF m 90 #[.val (.ref a1), .unset] [(.ref a1), (.int ((0 : Int32) + (0 : Int32))), (.ref w6), (.ref a1)])) rfl rfl (hb hby d6_90)
  -- pc 93: a private method: rm8
  obtain ⟨cq14, q14, q14'⟩ := (E_a1).cell
  obtain ⟨_, _, ⟨T14, L14, k14, n14⟩, -, X14, ⟨Lc14, hQ14, l14, y14, z14⟩, st14⟩ := X13.privateBack hx (y := (⟨"com/example/rolegate/rolegate/server/http/RequestReader", "indexOf", "([BII)I"⟩ : MethodName)) hown (mvT hZ (hw _ (List.mem_of_getElem? (i := 61) rfl))) (mvT hZ (hw _ (List.mem_of_getElem? (i := 62) rfl))) (mvT hZ (own_selects (by decide) (hw _ (List.mem_of_getElem? (i := 1) rfl)) (hw _ (List.mem_of_getElem? (i := 63) rfl)) (hw _ (List.mem_of_getElem? (i := 62) rfl)))) (Cond.privateMethod_at (mvP hZ (hw _ (List.mem_of_getElem? (i := 63) rfl)) (args := #[]))) (mvT hZ (hw _ (List.mem_of_getElem? (i := 64) rfl))) (by decide) (backOf (W := 0) (rm8 l Z a0 hw [] a1 w6 ((0 : Int32) + (0 : Int32)) (0 : Int32) cl (4 : Int32) h0 n0 Z0 Ar_6 (by rw [hsz]; decide) (by decide) (by decide)) hZ (hw _ (List.mem_of_getElem? (i := 64) rfl)) (hw _ (List.mem_of_getElem? (i := 2) rfl)) (by decide) (by decide)) (g := (mkF m 93 #[.val (.ref a1), .unset] [(.int (0 : Int32)), (.int ((0 : Int32) + (0 : Int32))), (.ref w6), (.ref a1)])) rfl (by rw [hml]; rfl) (Steps.refl _) (a := a1) (by rw [e13]; exact q14) q14' (argsL := [(.ref w6), (.int ((0 : Int32) + (0 : Int32))), (.int (0 : Int32))]) (rest := []) (lenOf pd_6_6 rfl) rfl (by show 2 * 0 + _ ≤ _; exact Nat.le_of_eq rfl) (hb hby d6_93) (fun _ _ => ⟨rfl, e13, (by decide : 0 + 0 ≤ _), (by decide : 0 + 0 ≤ _)⟩)
  dsimp only [Pt.U, Pt.locs, Pt.cells, Pt.slots] at X14 l14 y14 z14 st14 hQ14
  subst l14 y14 z14
  obtain ⟨rfl, N14q, e14q⟩ := hQ14      -- what it returned, that it wrote nothing old, and the rest of your Q8
  have N14 := Fr.app N11 N14q
  obtain ⟨T16, X16, e16, st16⟩ := getF X14 hx hZ hown (host := "") (Or.inl (hw _ (List.mem_of_getElem? (i := 49) rfl))) Via.refl e14q ((F_end_a1)) (g := (mkF m 103 #[.val (.ref a1), .val (.int (-1 : Int32))] [(.ref a1), (.ref a1)])) rfl rfl (hb hby d6_103)
  obtain ⟨T18, X18, e18, st18⟩ := getF X16 hx hZ hown (host := "") (Or.inl (hw _ (List.mem_of_getElem? (i := 51) rfl))) Via.refl e16 ((F_start_a1)) (g := (mkF m 107 #[.val (.ref a1), .val (.int (-1 : Int32))] [(.ref a1), (.int (0 : Int32)), (.ref a1)])) rfl rfl (hb hby d6_107)
  obtain ⟨T19, h19, X19, e19, W19, st19⟩ := putF X18 hx hZ hown (host := "") (Or.inl (hw _ (List.mem_of_getElem? (i := 55) rfl))) Via.refl e18 ((F_scanned_a1)) ((E_a1)) (Or.inl (hw _ (List.mem_of_getElem? (i := 56) rfl))) (hw _ (List.mem_of_getElem? (i := 1) rfl)) (ty := .int) (by decide) rfl rfl (g := (mkF m 111 #[.val (.ref a1), .val (.int (-1 : Int32))] [(.int ((0 : Int32) - (0 : Int32))), (.ref a1)])) rfl rfl (hb hby d6_111)
  have Fw19 := ((F_scanned_a1)).same W19      -- the field now holds (.int ((0 : Int32) - (0 : Int32)))
  have K19 : Keep h0 h19 [a1] := (Keep.refl h0 [a1]).wr W19 (Or.inl (List.mem_of_getElem? (i := 0) rfl))
  have N19 := Fr.snoc X19 N14 g_a1
  obtain ⟨T20, X20, e20, st20⟩ := getF X19 hx hZ hown (host := "") (Or.inl (hw _ (List.mem_of_getElem? (i := 55) rfl))) Via.refl e19 Fw19 (g := (mkF m 115 #[.val (.ref a1), .val (.int (-1 : Int32))] [(.ref a1)])) rfl rfl (hb hby d6_115)
  obtain ⟨T22, X22, e22, st22⟩ := getF X20 hx hZ hown (host := "") (Or.inl (hw _ (List.mem_of_getElem? (i := 18) rfl))) Via.refl e20 (((F_headBytes_a1)).other W19 (Or.inr (slot_ne (Or.inr (hw _ (List.mem_of_getElem? (i := 19) rfl))) (Or.inl (hw _ (List.mem_of_getElem? (i := 56) rfl))) (by decide) (t := .int) (t' := .int) (by decide) (by decide)))) (g := (mkF m 119 #[.val (.ref a1), .val (.int (-1 : Int32))] [(.ref a1), (.int ((0 : Int32) - (0 : Int32)))])) rfl rfl (hb hby d6_119)
  obtain ⟨fs, hr, hrun, hended, hW, hsame⟩ := X22.leave (v := some (.int (0 : Int32))) (fun h => by rw [Bd.returns] at h; cases h)
  refine ⟨_, _, pre0 _ ?_, hrun, hended, _, _, rfl, ?_, ⟨_, rfl⟩, hW, hsame.mono (by decide) (by decide)⟩
  -- 4. STEPS
  · show Steps p.tables e below (s₁.setTop (mkF m 0 #[.val (.ref a1), .unset] [])) _
    refine XS.aloadN X0.here hx rfl (hb hby d6_0) rfl rfl ?_
    show Steps p.tables e below (s₁.setTop (mkF m 1 #[.val (.ref a1), .unset] [(.ref a1)])) _
    refine st3 _ ?_
    show Steps p.tables e below (T3.setTop (mkF m 4 #[.val (.ref a1), .unset] [(.int (0 : Int32))])) _
    refine XS.aloadN X3.here hx rfl (hb hby d6_4) rfl rfl ?_
    show Steps p.tables e below (T3.setTop (mkF m 5 #[.val (.ref a1), .unset] [(.ref a1), (.int (0 : Int32))])) _
    refine st5 _ ?_
    show Steps p.tables e below (T5.setTop (mkF m 8 #[.val (.ref a1), .unset] [(.int (0 : Int32)), (.int (0 : Int32))])) _
    refine XS.isub X5.here hx rfl (hb hby d6_8) rfl ?_
    show Steps p.tables e below (T5.setTop (mkF m 9 #[.val (.ref a1), .unset] [(.int ((0 : Int32) - (0 : Int32)))])) _
    refine XS.iconst X5.here hx rfl (hb hby d6_9) ?_
    show Steps p.tables e below (T5.setTop (mkF m 10 #[.val (.ref a1), .unset] [(.int (2 : Int32)), (.int ((0 : Int32) - (0 : Int32)))])) _
    refine XS.icmpYes X5.here hx rfl (pc0 := 10) (pc' := 70) rfl (hb hby d6_10) rfl (tlt hc10).1 (by decide) (by decide) ?_
    show Steps p.tables e below (T5.setTop (mkF m 70 #[.val (.ref a1), .unset] [])) _
    refine XS.aloadN X5.here hx rfl (hb hby d6_70) rfl rfl ?_
    show Steps p.tables e below (T5.setTop (mkF m 71 #[.val (.ref a1), .unset] [(.ref a1)])) _
    refine st7 _ ?_
    show Steps p.tables e below (T7.setTop (mkF m 74 #[.val (.ref a1), .unset] [(.ref w6), (.ref a1)])) _
    refine XS.aloadN X7.here hx rfl (hb hby d6_74) rfl rfl ?_
    show Steps p.tables e below (T7.setTop (mkF m 75 #[.val (.ref a1), .unset] [(.ref a1), (.ref w6), (.ref a1)])) _
    refine st8 _ ?_
    show Steps p.tables e below (T8.setTop (mkF m 78 #[.val (.ref a1), .unset] [(.int (0 : Int32)), (.ref w6), (.ref a1)])) _
    refine XS.iconst X8.here hx rfl (hb hby d6_78) ?_
    show Steps p.tables e below (T8.setTop (mkF m 79 #[.val (.ref a1), .unset] [(.int (0 : Int32)), (.int (0 : Int32)), (.ref w6), (.ref a1)])) _
    refine XS.aloadN X8.here hx rfl (hb hby d6_79) rfl rfl ?_
    show Steps p.tables e below (T8.setTop (mkF m 80 #[.val (.ref a1), .unset] [(.ref a1), (.int (0 : Int32)), (.int (0 : Int32)), (.ref w6), (.ref a1)])) _
    refine st10 _ ?_
    show Steps p.tables e below (T10.setTop (mkF m 83 #[.val (.ref a1), .unset] [(.int (0 : Int32)), (.int (0 : Int32)), (.int (0 : Int32)), (.ref w6), (.ref a1)])) _
    refine XS.iconst X10.here hx rfl (hb hby d6_83) ?_
    show Steps p.tables e below (T10.setTop (mkF m 84 #[.val (.ref a1), .unset] [(.int (3 : Int32)), (.int (0 : Int32)), (.int (0 : Int32)), (.int (0 : Int32)), (.ref w6), (.ref a1)])) _
    refine XS.isub X10.here hx rfl (hb hby d6_84) rfl ?_
    show Steps p.tables e below (T10.setTop (mkF m 85 #[.val (.ref a1), .unset] [(.int ((0 : Int32) - (3 : Int32))), (.int (0 : Int32)), (.int (0 : Int32)), (.ref w6), (.ref a1)])) _
    refine st11 _ ?_
    show Steps p.tables e below (T11.setTop (mkF m 88 #[.val (.ref a1), .unset] [(.int (0 : Int32)), (.int (0 : Int32)), (.ref w6), (.ref a1)])) _
    refine XS.iadd X11.here hx rfl (hb hby d6_88) rfl ?_
    show Steps p.tables e below (T11.setTop (mkF m 89 #[.val (.ref a1), .unset] [(.int ((0 : Int32) + (0 : Int32))), (.ref w6), (.ref a1)])) _
    refine XS.aloadN X11.here hx rfl (hb hby d6_89) rfl rfl ?_
    show Steps p.tables e below (T11.setTop (mkF m 90 #[.val (.ref a1), .unset] [(.ref a1), (.int ((0 : Int32) + (0 : Int32))), (.ref w6), (.ref a1)])) _
    refine st13 _ ?_
    show Steps p.tables e below (T13.setTop (mkF m 93 #[.val (.ref a1), .unset] [(.int (0 : Int32)), (.int ((0 : Int32) + (0 : Int32))), (.ref w6), (.ref a1)])) _
    refine st14.trans ?_
    show Steps p.tables e below (T14.setTop (mkF m 96 #[.val (.ref a1), .unset] [(.int (-1 : Int32))])) _
    refine XS.istoreN X14.here hx rfl (hb hby d6_96) rfl (l' := #[.val (.ref a1), .val (.int (-1 : Int32))]) rfl ?_
    show Steps p.tables e below (T14.setTop (mkF m 97 #[.val (.ref a1), .val (.int (-1 : Int32))] [])) _
    refine XS.iloadN X14.here hx rfl (hb hby d6_97) rfl ?_
    show Steps p.tables e below (T14.setTop (mkF m 98 #[.val (.ref a1), .val (.int (-1 : Int32))] [(.int (-1 : Int32))])) _
    refine XS.ifNo X14.here hx rfl (hb hby d6_98) rfl ((if0 _ _).trans (tlt (by decide : (-1 : Int32) < (0 : Int32))).2.1) ?_
    show Steps p.tables e below (T14.setTop (mkF m 101 #[.val (.ref a1), .val (.int (-1 : Int32))] [])) _
    refine XS.aloadN X14.here hx rfl (hb hby d6_101) rfl rfl ?_
    show Steps p.tables e below (T14.setTop (mkF m 102 #[.val (.ref a1), .val (.int (-1 : Int32))] [(.ref a1)])) _
    refine XS.aloadN X14.here hx rfl (hb hby d6_102) rfl rfl ?_
    show Steps p.tables e below (T14.setTop (mkF m 103 #[.val (.ref a1), .val (.int (-1 : Int32))] [(.ref a1), (.ref a1)])) _
    refine st16 _ ?_
    show Steps p.tables e below (T16.setTop (mkF m 106 #[.val (.ref a1), .val (.int (-1 : Int32))] [(.int (0 : Int32)), (.ref a1)])) _
    refine XS.aloadN X16.here hx rfl (hb hby d6_106) rfl rfl ?_
    show Steps p.tables e below (T16.setTop (mkF m 107 #[.val (.ref a1), .val (.int (-1 : Int32))] [(.ref a1), (.int (0 : Int32)), (.ref a1)])) _
    refine st18 _ ?_
    show Steps p.tables e below (T18.setTop (mkF m 110 #[.val (.ref a1), .val (.int (-1 : Int32))] [(.int (0 : Int32)), (.int (0 : Int32)), (.ref a1)])) _
    refine XS.isub X18.here hx rfl (hb hby d6_110) rfl ?_
    show Steps p.tables e below (T18.setTop (mkF m 111 #[.val (.ref a1), .val (.int (-1 : Int32))] [(.int ((0 : Int32) - (0 : Int32))), (.ref a1)])) _
    refine st19 _ ?_
    show Steps p.tables e below (T19.setTop (mkF m 114 #[.val (.ref a1), .val (.int (-1 : Int32))] [])) _
    refine XS.aloadN X19.here hx rfl (hb hby d6_114) rfl rfl ?_
    show Steps p.tables e below (T19.setTop (mkF m 115 #[.val (.ref a1), .val (.int (-1 : Int32))] [(.ref a1)])) _
    refine st20 _ ?_
    show Steps p.tables e below (T20.setTop (mkF m 118 #[.val (.ref a1), .val (.int (-1 : Int32))] [(.int ((0 : Int32) - (0 : Int32)))])) _
    refine XS.aloadN X20.here hx rfl (hb hby d6_118) rfl rfl ?_
    show Steps p.tables e below (T20.setTop (mkF m 119 #[.val (.ref a1), .val (.int (-1 : Int32))] [(.ref a1), (.int ((0 : Int32) - (0 : Int32)))])) _
    refine st22 _ ?_
    show Steps p.tables e below (T22.setTop (mkF m 122 #[.val (.ref a1), .val (.int (-1 : Int32))] [(.int hY), (.int ((0 : Int32) - (0 : Int32)))])) _
    refine XS.icmpYes X22.here hx rfl (pc0 := 122) (pc' := 130) rfl (hb hby d6_122) rfl (flt hc122).2.2.2 (by decide) (by decide) ?_
    show Steps p.tables e below (T22.setTop (mkF m 130 #[.val (.ref a1), .val (.int (-1 : Int32))] [])) _
    refine XS.iconst X22.here hx rfl (hb hby d6_130) ?_
    show Steps p.tables e below (T22.setTop (mkF m 131 #[.val (.ref a1), .val (.int (-1 : Int32))] [(.int (0 : Int32))])) _
    exact retN X22 hx (t := .boolean) Bd.returns (by simp) (hb hby d6_131) hr
  · show Q6 Z a1 hd hY h0 n0 _ T22.heap _
    rw [e22]
    exact ⟨rfl, N19, K19, E_a1.wr W19, (F_stage_a1.other W19 (Or.inr (slot_ne (Or.inl (hw _ (List.mem_of_getElem? (i := 17) rfl))) (Or.inl (hw _ (List.mem_of_getElem? (i := 56) rfl))) (by decide) (t := (.object "com/example/rolegate/rolegate/server/http/RequestReader$Stage")) (t' := .int) (by decide) (by decide)))), (F_headBytes_a1.other W19 (Or.inr (slot_ne (Or.inr (hw _ (List.mem_of_getElem? (i := 19) rfl))) (Or.inl (hw _ (List.mem_of_getElem? (i := 56) rfl))) (by decide) (t := .int) (t' := .int) (by decide) (by decide)))), (F_continueDue_a1.other W19 (Or.inr (slot_ne (Or.inl (hw _ (List.mem_of_getElem? (i := 28) rfl))) (Or.inl (hw _ (List.mem_of_getElem? (i := 56) rfl))) (by decide) (t := .boolean) (t' := .int) (by decide) (by decide)))), (F_end_a1.other W19 (Or.inr (slot_ne (Or.inl (hw _ (List.mem_of_getElem? (i := 50) rfl))) (Or.inl (hw _ (List.mem_of_getElem? (i := 56) rfl))) (by decide) (t := .int) (t' := .int) (by decide) (by decide)))), (F_start_a1.other W19 (Or.inr (slot_ne (Or.inl (hw _ (List.mem_of_getElem? (i := 52) rfl))) (Or.inl (hw _ (List.mem_of_getElem? (i := 56) rfl))) (by decide) (t := .int) (t' := .int) (by decide) (by decide)))), Fw19⟩
theorem d4_0 : decode prog_14_method_4_code 0 = .ok (.aload_n 0, 1) := by decide +kernel
theorem d4_1 : decode prog_14_method_4_code 1 = .ok (.getfield 19, 3) := by decide +kernel
theorem d4_4 : decode prog_14_method_4_code 4 = .ok (.getstatic 57, 3) := by decide +kernel
theorem d4_7 : decode prog_14_method_4_code 7 = .ok (.if_acmp .eq 118, 3) := by decide +kernel
theorem d4_10 : decode prog_14_method_4_code 10 = .ok (.aload_n 0, 1) := by decide +kernel
theorem d4_11 : decode prog_14_method_4_code 11 = .ok (.getfield 19, 3) := by decide +kernel
theorem d4_14 : decode prog_14_method_4_code 14 = .ok (.invokevirtual 60, 3) := by decide +kernel
theorem d4_17 : decode prog_14_method_4_code 17 = .ok (.tableswitch 43 0 6 #[53, 60, 67, 60, 74, 81, 88], 43) := by decide +kernel
theorem d4_70 : decode prog_14_method_4_code 70 = .ok (.aload_n 0, 1) := by decide +kernel
theorem d4_71 : decode prog_14_method_4_code 71 = .ok (.invokevirtual 68, 3) := by decide +kernel
theorem d4_74 : decode prog_14_method_4_code 74 = .ok (.goto 41, 3) := by decide +kernel
theorem d4_115 : decode prog_14_method_4_code 115 = .ok (.istore_n 1, 1) := by decide +kernel
theorem d4_116 : decode prog_14_method_4_code 116 = .ok (.iload_n 1, 1) := by decide +kernel
theorem d4_117 : decode prog_14_method_4_code 117 = .ok (.ifCond .ne 5, 3) := by decide +kernel
theorem d4_120 : decode prog_14_method_4_code 120 = .ok (.aconst_null, 1) := by decide +kernel
theorem d4_121 : decode prog_14_method_4_code 121 = .ok (.areturn, 1) := by decide +kernel
theorem pn_4 : plainName "com/example/rolegate/rolegate/server/http/RequestReader" = true := by first | (simp [plainName, overriddenIn]; done) | decide +kernel
theorem pd_4_4 : parseMethodDescriptor "()I" = some ⟨[], some .int⟩ := by decide +kernel
theorem pd_4_2 : parseMethodDescriptor "()Z" = some ⟨[], some .boolean⟩ := by decide +kernel
theorem ef_4 (m : MethodId) (x0 : Addr) : entryFrame m #[(.ref x0)] 3 = mkF m 0 #[.val (.ref x0), .unset, .unset] [] := by first | (simp [entryFrame, mkF, argsToLocals, Value.category]; done) | rfl
def Q4 (Z : State) (a1 hd : Addr) (hY : Int32) (h0 : Heap) (n0 : Nat) (v : Option Value) (h : Heap) (L : List Loc) : Prop := v = some .null ∧ Fr n0 L ∧ Keep h0 h [a1] ∧ own_R Z h a1 hd hY
set_option maxRecDepth 65536 in
set_option maxHeartbeats 40000000 in
theorem rm4 (l : Launch) (Z : State) (a0 : Array Value) (hw : ∀ d ∈ tables_1, d.before a0 Z = true) (ws : List Jvm.Cond) (a1 hd : Addr) (hY : Int32) (w6 w4 : Addr) (cl : Cell) (h0 : Heap) (n0 : Nat) (Z0 : n0 ≤ h0.size) (O_ : own_R Z h0 a1 hd hY) (g_a1 : n0 ≤ a1) (S_HEAD_END : Sta Z h0 "com/example/rolegate/rolegate/server/http/RequestReader" "HEAD_END" "[B" (.ref w6)) (Ar_6 : Arr Z h0 w6 cl .byte) (hsz : cl.slots.size = 4) (hnb : ¬ hY < 0) (S_DONE : Sta Z h0 "com/example/rolegate/rolegate/server/http/RequestReader$Stage" "DONE" "Lcom/example/rolegate/rolegate/server/http/RequestReader$Stage;" (.ref w4)) (E_w2 : Exa Z h0 hd "com/example/rolegate/rolegate/server/http/RequestReader$Stage") (F_o : Fld Z h0 hd "java/lang/Enum" "ordinal" "I" (.int (0 : Int32))) (ha7 : ¬ (hd = w4)) :
    MetFree l (⟨"com/example/rolegate/rolegate/server/http/RequestReader", "next", "()Lcom/example/rolegate/rolegate/server/http/RequestReader$Incoming;"⟩ : MethodName) (head1 (Jvm.Cond.code (⟨"com/example/rolegate/rolegate/server/http/RequestReader", "next", "()Lcom/example/rolegate/rolegate/server/http/RequestReader$Incoming;"⟩ : MethodName) prog_14_method_4_code 3 (some (.object "com/example/rolegate/rolegate/server/http/RequestReader$Incoming")) :: ws) ({ frames := 2, cells := 0, slots := 0, locals := 30 } : Room)) (fun a U => a = #[(.ref a1)] ∧ Z.Warmed39 U.vm ∧ U.heap = h0) (fun _ _ _ _ _ => True) (fun _ U o U' => ∃ v L, o = .returned v ∧ Q4 Z a1 hd hY h0 n0 v U'.heap L ∧ FrameEnd U o U' L ({ frames := 2, cells := 0, slots := 0, locals := 30 } : Room).cells ({ frames := 2, cells := 0, slots := 0, locals := 30 } : Room).slots) := by
  refine MetFree.of_bodySF (plainFor_of_name pn_4) hisR ?_
  intro p e s m args below meth c s₁ Bd hml0 hP hK
  obtain ⟨rfl, hZ, hh⟩ := hP
  have hx := Bd.exec
  have hby := Bd.bytes
  have hml : c.maxLocals = 3 := hml0
  have hown : s.vm.findClass "com/example/rolegate/rolegate/server/http/RequestReader" = some m.cls := findClass_of_methodNamed Bd.named
  have hnm := (name_of_methodNamed Bd.named Bd.method).1
  have X0 : Stand p l e ({ frames := 2, cells := 0, slots := 0, locals := 30 } : Room) s m #[(.ref a1)] below meth c s₁ [] 0 0 := Stand.of_body Bd
  have e0 : s₁.heap = h0 := by rw [← hh, Bd.state]; rfl
  have N0 := Fr.nil n0
  have pre0 : ∀ t, Steps p.tables e below (s₁.setTop (mkF m 0 #[.val (.ref a1), .unset, .unset] [])) t → Steps p.tables e below (s₁.setTop (entryFrame m #[(.ref a1)] 3)) t := fun t k => castTop (ef_4 m a1) k
  -- 3. LAWS
  obtain ⟨E_a1, F_stage_a1, F_headBytes_a1, F_continueDue_a1, F_end_a1, F_start_a1, F_scanned_a1⟩ := O_
  obtain ⟨T3, X3, e3, st3⟩ := getF X0 hx hZ hown (host := "") (Or.inl (hw _ (List.mem_of_getElem? (i := 16) rfl))) Via.refl e0 F_stage_a1 (g := (mkF m 1 #[.val (.ref a1), .unset, .unset] [(.ref a1)])) rfl rfl (hb hby d4_1)
  obtain ⟨T5, X5, e5, st5⟩ := getS2 X3 hx hZ hown (host := "") (Or.inl (hw _ (List.mem_of_getElem? (i := 34) rfl))) Via.refl e3 S_DONE (g := (mkF m 4 #[.val (.ref a1), .unset, .unset] [(.ref hd)])) rfl (hb hby d4_4)
  obtain ⟨T6, X6, e6, st6⟩ := getF X5 hx hZ hown (host := "") (Or.inl (hw _ (List.mem_of_getElem? (i := 16) rfl))) Via.refl e5 F_stage_a1 (g := (mkF m 11 #[.val (.ref a1), .unset, .unset] [(.ref a1)])) rfl rfl (hb hby d4_11)
  -- pc 14: com/example/rolegate/rolegate/server/http/RequestReader$Stage.ordinal by the contract of the body that the receiver's class selects, rm5
  obtain ⟨cq7, kq7, q7a, q7b, q7c⟩ := isOf hZ e6 E_w2
  obtain ⟨_, _, ⟨T7, L7, k7, n7⟩, -, X7, ⟨Lc7, hQ7, l7, y7, z7⟩, st7⟩ := X6.virtualBackUp hx (x := (⟨"com/example/rolegate/rolegate/server/http/RequestReader$Stage", "ordinal", "()I"⟩ : MethodName)) (y := (⟨"java/lang/Enum", "ordinal", "()I"⟩ : MethodName)) (owner := "java/lang/Enum") hown (mvT hZ (hw _ (List.mem_of_getElem? (i := 36) rfl))) (mvT hZ (hw _ (List.mem_of_getElem? (i := 37) rfl))) (mvT hZ (hw _ (List.mem_of_getElem? (i := 38) rfl))) (by decide) (mvT hZ (hw _ (List.mem_of_getElem? (i := 40) rfl))) (mvT hZ (hw _ (List.mem_of_getElem? (i := 39) rfl))) (backOf (W := 0) (rm5 l Z a0 hw [] hd h0 n0 Z0 F_o) hZ (hw _ (List.mem_of_getElem? (i := 42) rfl)) (hw _ (List.mem_of_getElem? (i := 41) rfl)) (by decide) (by decide)) q7a q7c (g := (mkF m 14 #[.val (.ref a1), .unset, .unset] [(.ref hd)])) rfl (by rw [hml]; rfl) (Steps.refl _) (argsL := []) (rest := []) (lenOf pd_4_4 rfl) rfl (by show 2 * 0 + _ ≤ _; exact Nat.le_of_eq rfl) (hb hby d4_14) (fun _ _ => ⟨rfl, e6, (by decide : 0 + 0 ≤ _), (by decide : 0 + 0 ≤ _)⟩)
  dsimp only [Pt.U, Pt.locs, Pt.cells, Pt.slots] at X7 l7 y7 z7 st7 hQ7
  subst l7 y7 z7
  obtain ⟨rfl, N7q, e7q⟩ := hQ7      -- what it returned, that it wrote nothing old, and the rest of your Q5
  have N7 := Fr.app N0 N7q
  -- pc 71: a private method: rm6
  obtain ⟨cq8, q8, q8'⟩ := E_a1.cell
  obtain ⟨_, _, ⟨T8, L8, k8, n8⟩, -, X8, ⟨Lc8, hQ8, l8, y8, z8⟩, st8⟩ := X7.privateBack hx (y := (⟨"com/example/rolegate/rolegate/server/http/RequestReader", "readHead", "()Z"⟩ : MethodName)) hown (mvT hZ (hw _ (List.mem_of_getElem? (i := 45) rfl))) (mvT hZ (hw _ (List.mem_of_getElem? (i := 46) rfl))) (mvT hZ (own_selects (by decide) (hw _ (List.mem_of_getElem? (i := 1) rfl)) (hw _ (List.mem_of_getElem? (i := 47) rfl)) (hw _ (List.mem_of_getElem? (i := 46) rfl)))) (Cond.privateMethod_at (mvP hZ (hw _ (List.mem_of_getElem? (i := 47) rfl)) (args := #[]))) (mvT hZ (hw _ (List.mem_of_getElem? (i := 48) rfl))) (by decide) (backOf (W := 0) (rm6 l Z a0 hw [] a1 hd hY w6 cl h0 n0 Z0 ⟨E_a1, F_stage_a1, F_headBytes_a1, F_continueDue_a1, F_end_a1, F_start_a1, F_scanned_a1⟩ g_a1 S_HEAD_END Ar_6 hsz hnb) hZ (hw _ (List.mem_of_getElem? (i := 48) rfl)) (hw _ (List.mem_of_getElem? (i := 2) rfl)) (by decide) (by decide)) (g := (mkF m 71 #[.val (.ref a1), .unset, .unset] [(.ref a1)])) rfl (by rw [hml]; rfl) (Steps.refl _) (a := a1) (by rw [e7q]; exact q8) q8' (argsL := []) (rest := []) (lenOf pd_4_2 rfl) rfl (by show 2 * 0 + _ ≤ _; exact Nat.le_of_eq rfl) (hb hby d4_71) (fun _ _ => ⟨rfl, e7q, (by decide : 0 + 0 ≤ _), (by decide : 0 + 0 ≤ _)⟩)
  dsimp only [Pt.U, Pt.locs, Pt.cells, Pt.slots] at X8 l8 y8 z8 st8 hQ8
  subst l8 y8 z8
  obtain ⟨rfl, N8q, K8, O8⟩ := hQ8      -- what it returned, that it wrote nothing old, and the rest of your Q6
  have N8 := Fr.app N7 N8q
  obtain ⟨fs, hr, hrun, hended, hW, hsame⟩ := X8.leave (v := some .null) (fun h => by rw [Bd.returns] at h; cases h)
  refine ⟨_, _, pre0 _ ?_, hrun, hended, _, _, rfl, ?_, ⟨_, rfl⟩, hW, hsame.mono (by decide) (by decide)⟩
  -- 4. STEPS
  · show Steps p.tables e below (s₁.setTop (mkF m 0 #[.val (.ref a1), .unset, .unset] [])) _
    refine XS.aloadN X0.here hx rfl (hb hby d4_0) rfl rfl ?_
    show Steps p.tables e below (s₁.setTop (mkF m 1 #[.val (.ref a1), .unset, .unset] [(.ref a1)])) _
    refine st3 _ ?_
    show Steps p.tables e below (T3.setTop (mkF m 4 #[.val (.ref a1), .unset, .unset] [(.ref hd)])) _
    refine st5 _ ?_
    show Steps p.tables e below (T5.setTop (mkF m 7 #[.val (.ref a1), .unset, .unset] [(.ref w4), (.ref hd)])) _
    refine Jvm.RoadKit.acmp (g := (mkF m 7 #[.val (.ref a1), .unset, .unset] [(.ref w4), (.ref hd)])) X5 hx rfl rfl rfl (pc0 := 7) (pc' := 10) (same := false) rfl (hb hby d4_7) rfl (decide_eq_false fun q => ha7 (Value.ref.inj q)) (by decide) (by decide) ?_
    show Steps p.tables e below (T5.setTop (mkF m 10 #[.val (.ref a1), .unset, .unset] [])) _
    refine XS.aloadN X5.here hx rfl (hb hby d4_10) rfl rfl ?_
    show Steps p.tables e below (T5.setTop (mkF m 11 #[.val (.ref a1), .unset, .unset] [(.ref a1)])) _
    refine st6 _ ?_
    show Steps p.tables e below (T6.setTop (mkF m 14 #[.val (.ref a1), .unset, .unset] [(.ref hd)])) _
    refine st7.trans ?_
    show Steps p.tables e below (T7.setTop (mkF m 17 #[.val (.ref a1), .unset, .unset] [(.int (0 : Int32))])) _
    refine XS.tswIn X7.here hx rfl (pc0 := 17) (pc' := 70) rfl (hb hby d4_17) (o := 53) rfl (by decide) (by decide) (by decide) (by decide) ?_
    show Steps p.tables e below (T7.setTop (mkF m 70 #[.val (.ref a1), .unset, .unset] [])) _
    refine XS.aloadN X7.here hx rfl (hb hby d4_70) rfl rfl ?_
    show Steps p.tables e below (T7.setTop (mkF m 71 #[.val (.ref a1), .unset, .unset] [(.ref a1)])) _
    refine st8.trans ?_
    show Steps p.tables e below (T8.setTop (mkF m 74 #[.val (.ref a1), .unset, .unset] [(.int (0 : Int32))])) _
    refine XS.goto X8.here hx rfl (pc0 := 74) (pc' := 115) rfl (hb hby d4_74) (by decide) (by decide) ?_
    show Steps p.tables e below (T8.setTop (mkF m 115 #[.val (.ref a1), .unset, .unset] [(.int (0 : Int32))])) _
    refine XS.istoreN X8.here hx rfl (hb hby d4_115) rfl (l' := #[.val (.ref a1), .val (.int (0 : Int32)), .unset]) rfl ?_
    show Steps p.tables e below (T8.setTop (mkF m 116 #[.val (.ref a1), .val (.int (0 : Int32)), .unset] [])) _
    refine XS.iloadN X8.here hx rfl (hb hby d4_116) rfl ?_
    show Steps p.tables e below (T8.setTop (mkF m 117 #[.val (.ref a1), .val (.int (0 : Int32)), .unset] [(.int (0 : Int32))])) _
    refine XS.ifNo X8.here hx rfl (hb hby d4_117) rfl ((if0 _ _).trans (teq (by decide : (0 : Int32) = (0 : Int32))).2) ?_
    show Steps p.tables e below (T8.setTop (mkF m 120 #[.val (.ref a1), .val (.int (0 : Int32)), .unset] [])) _
    refine XS.aconstNull X8.here hx rfl (hb hby d4_120) ?_
    show Steps p.tables e below (T8.setTop (mkF m 121 #[.val (.ref a1), .val (.int (0 : Int32)), .unset] [.null])) _
    jvm_step X8.here [X8.here.top, hx, (hb hby d4_121), X8.method', Bd.returns, Value.isRef, FieldType.isReference]
    first | (intro acts; rw [hr _ acts rfl rfl rfl]) | rw [hr _ _ rfl rfl rfl]
    exact Steps.refl _
  · show Q4 Z a1 hd hY h0 n0 _ T8.heap _
    exact ⟨rfl, N8, K8, O8⟩
theorem d9_0 : decode prog_14_method_3_code 0 = .ok (.aload_n 0, 1) := by decide +kernel
theorem d9_1 : decode prog_14_method_3_code 1 = .ok (.getfield 19, 3) := by decide +kernel
theorem d9_4 : decode prog_14_method_3_code 4 = .ok (.getstatic 13, 3) := by decide +kernel
theorem d9_7 : decode prog_14_method_3_code 7 = .ok (.if_acmp .ne 14, 3) := by decide +kernel
theorem d9_10 : decode prog_14_method_3_code 10 = .ok (.aload_n 0, 1) := by decide +kernel
theorem d9_11 : decode prog_14_method_3_code 11 = .ok (.getfield 38, 3) := by decide +kernel
theorem d9_14 : decode prog_14_method_3_code 14 = .ok (.aload_n 0, 1) := by decide +kernel
theorem d9_15 : decode prog_14_method_3_code 15 = .ok (.getfield 35, 3) := by decide +kernel
theorem d9_18 : decode prog_14_method_3_code 18 = .ok (.if_icmp .ge 7, 3) := by decide +kernel
theorem d9_25 : decode prog_14_method_3_code 25 = .ok (.iconst 0, 1) := by decide +kernel
theorem d9_26 : decode prog_14_method_3_code 26 = .ok (.ireturn, 1) := by decide +kernel
theorem pn_9 : plainName "com/example/rolegate/rolegate/server/http/RequestReader" = true := by first | (simp [plainName, overriddenIn]; done) | decide +kernel
theorem ef_9 (m : MethodId) (x0 : Addr) : entryFrame m #[(.ref x0)] 1 = mkF m 0 #[.val (.ref x0)] [] := by first | (simp [entryFrame, mkF, argsToLocals, Value.category]; done) | rfl
def Q9 (Z : State) (a1 hd : Addr) (hY : Int32) (h0 : Heap) (n0 : Nat) (v : Option Value) (h : Heap) (L : List Loc) : Prop := v = some (.int (0 : Int32)) ∧ Fr n0 L ∧ h = h0
set_option maxRecDepth 65536 in
set_option maxHeartbeats 40000000 in
theorem rm9 (l : Launch) (Z : State) (a0 : Array Value) (hw : ∀ d ∈ tables_1, d.before a0 Z = true) (ws : List Jvm.Cond) (a1 hd : Addr) (hY : Int32) (h0 : Heap) (n0 : Nat) (Z0 : n0 ≤ h0.size) (O_ : own_R Z h0 a1 hd hY) (S_HEAD : Sta Z h0 "com/example/rolegate/rolegate/server/http/RequestReader$Stage" "HEAD" "Lcom/example/rolegate/rolegate/server/http/RequestReader$Stage;" (.ref hd)) :
    MetFree l (⟨"com/example/rolegate/rolegate/server/http/RequestReader", "started", "()Z"⟩ : MethodName) (head1 (Jvm.Cond.code (⟨"com/example/rolegate/rolegate/server/http/RequestReader", "started", "()Z"⟩ : MethodName) prog_14_method_3_code 1 (some .boolean) :: ws) ({ frames := 0, cells := 0, slots := 0, locals := 0 } : Room)) (fun a U => a = #[(.ref a1)] ∧ Z.Warmed39 U.vm ∧ U.heap = h0) (fun _ _ _ _ _ => True) (fun _ U o U' => ∃ v L, o = .returned v ∧ Q9 Z a1 hd hY h0 n0 v U'.heap L ∧ FrameEnd U o U' L ({ frames := 0, cells := 0, slots := 0, locals := 0 } : Room).cells ({ frames := 0, cells := 0, slots := 0, locals := 0 } : Room).slots) := by
  refine MetFree.of_bodySF (plainFor_of_name pn_9) hisR ?_
  intro p e s m args below meth c s₁ Bd hml0 hP hK
  obtain ⟨rfl, hZ, hh⟩ := hP
  have hx := Bd.exec
  have hby := Bd.bytes
  have hml : c.maxLocals = 1 := hml0
  have hown : s.vm.findClass "com/example/rolegate/rolegate/server/http/RequestReader" = some m.cls := findClass_of_methodNamed Bd.named
  have hnm := (name_of_methodNamed Bd.named Bd.method).1
  have X0 : Stand p l e ({ frames := 0, cells := 0, slots := 0, locals := 0 } : Room) s m #[(.ref a1)] below meth c s₁ [] 0 0 := Stand.of_body Bd
  have e0 : s₁.heap = h0 := by rw [← hh, Bd.state]; rfl
  have N0 := Fr.nil n0
  have pre0 : ∀ t, Steps p.tables e below (s₁.setTop (mkF m 0 #[.val (.ref a1)] [])) t → Steps p.tables e below (s₁.setTop (entryFrame m #[(.ref a1)] 1)) t := fun t k => castTop (ef_9 m a1) k
  -- 3. LAWS
  obtain ⟨E_a1, F_stage_a1, F_headBytes_a1, F_continueDue_a1, F_end_a1, F_start_a1, F_scanned_a1⟩ := O_
  have ha7 : hd = hd := rfl
  have hc18 : ¬ ((0 : Int32) < (0 : Int32)) := by decide
  obtain ⟨T3, X3, e3, st3⟩ := getF X0 hx hZ hown (host := "") (Or.inl (hw _ (List.mem_of_getElem? (i := 16) rfl))) Via.refl e0 F_stage_a1 (g := (mkF m 1 #[.val (.ref a1)] [(.ref a1)])) rfl rfl (hb hby d9_1)
  obtain ⟨T5, X5, e5, st5⟩ := getS2 X3 hx hZ hown (host := "") (Or.inl (hw _ (List.mem_of_getElem? (i := 13) rfl))) Via.refl e3 S_HEAD (g := (mkF m 4 #[.val (.ref a1)] [(.ref hd)])) rfl (hb hby d9_4)
  obtain ⟨T7, X7, e7, st7⟩ := getF X5 hx hZ hown (host := "") (Or.inl (hw _ (List.mem_of_getElem? (i := 51) rfl))) Via.refl e5 F_start_a1 (g := (mkF m 11 #[.val (.ref a1)] [(.ref a1)])) rfl rfl (hb hby d9_11)
  obtain ⟨T9, X9, e9, st9⟩ := getF X7 hx hZ hown (host := "") (Or.inl (hw _ (List.mem_of_getElem? (i := 49) rfl))) Via.refl e7 F_end_a1 (g := (mkF m 15 #[.val (.ref a1)] [(.ref a1), (.int (0 : Int32))])) rfl rfl (hb hby d9_15)
  obtain ⟨fs, hr, hrun, hended, hW, hsame⟩ := X9.leave (v := some (.int (0 : Int32))) (fun h => by rw [Bd.returns] at h; cases h)
  refine ⟨_, _, pre0 _ ?_, hrun, hended, _, _, rfl, ?_, ⟨_, rfl⟩, hW, hsame.mono (by decide) (by decide)⟩
  -- 4. STEPS
  · show Steps p.tables e below (s₁.setTop (mkF m 0 #[.val (.ref a1)] [])) _
    refine XS.aloadN X0.here hx rfl (hb hby d9_0) rfl rfl ?_
    show Steps p.tables e below (s₁.setTop (mkF m 1 #[.val (.ref a1)] [(.ref a1)])) _
    refine st3 _ ?_
    show Steps p.tables e below (T3.setTop (mkF m 4 #[.val (.ref a1)] [(.ref hd)])) _
    refine st5 _ ?_
    show Steps p.tables e below (T5.setTop (mkF m 7 #[.val (.ref a1)] [(.ref hd), (.ref hd)])) _
    refine Jvm.RoadKit.acmp (g := (mkF m 7 #[.val (.ref a1)] [(.ref hd), (.ref hd)])) X5 hx rfl rfl rfl (pc0 := 7) (pc' := 10) (same := true) rfl (hb hby d9_7) rfl (decide_eq_true (congrArg Value.ref ha7)) (by decide) (by decide) ?_
    show Steps p.tables e below (T5.setTop (mkF m 10 #[.val (.ref a1)] [])) _
    refine XS.aloadN X5.here hx rfl (hb hby d9_10) rfl rfl ?_
    show Steps p.tables e below (T5.setTop (mkF m 11 #[.val (.ref a1)] [(.ref a1)])) _
    refine st7 _ ?_
    show Steps p.tables e below (T7.setTop (mkF m 14 #[.val (.ref a1)] [(.int (0 : Int32))])) _
    refine XS.aloadN X7.here hx rfl (hb hby d9_14) rfl rfl ?_
    show Steps p.tables e below (T7.setTop (mkF m 15 #[.val (.ref a1)] [(.ref a1), (.int (0 : Int32))])) _
    refine st9 _ ?_
    show Steps p.tables e below (T9.setTop (mkF m 18 #[.val (.ref a1)] [(.int (0 : Int32)), (.int (0 : Int32))])) _
    refine XS.icmpYes X9.here hx rfl (pc0 := 18) (pc' := 25) rfl (hb hby d9_18) rfl (flt hc18).2.1 (by decide) (by decide) ?_
    show Steps p.tables e below (T9.setTop (mkF m 25 #[.val (.ref a1)] [])) _
    refine XS.iconst X9.here hx rfl (hb hby d9_25) ?_
    show Steps p.tables e below (T9.setTop (mkF m 26 #[.val (.ref a1)] [(.int (0 : Int32))])) _
    exact retN X9 hx (t := .boolean) Bd.returns (by simp) (hb hby d9_26) hr
  · show Q9 Z a1 hd hY h0 n0 _ T9.heap _
    rw [e9]
    exact ⟨rfl, N0, rfl⟩
theorem own_plain {Z : State} {h : Heap} {a : Addr} {C : String} (E : Exa Z h a C) : ∀ c : Cell, h[a]? = some c → c.vm.isStatics = false := fun c hc => by
  obtain ⟨cell, k, h1, -, -, h4, -⟩ := E
  cases h1.symm.trans hc
  exact h4
theorem pn_0 : plainName "com/example/rolegate/rolegate/server/http/RequestReaderTakeContinuePinLaw" = true := by first | (simp [plainName, overriddenIn]; done) | decide +kernel
theorem pd_0_0 : parseMethodDescriptor "(II)V" = some ⟨[.int, .int], none⟩ := by decide +kernel
theorem pd_0_2 : parseMethodDescriptor "()Z" = some ⟨[], some .boolean⟩ := by decide +kernel
theorem pd_0_3 : parseMethodDescriptor "()Lcom/example/rolegate/rolegate/server/http/RequestReader$Incoming;" = some ⟨[], some (.object "com/example/rolegate/rolegate/server/http/RequestReader$Incoming")⟩ := by decide +kernel
theorem ef_0 (m : MethodId) (x0 : Int32) (x1 : Int32) : entryFrame m #[(.int x0), (.int x1)] maxLocals = mkF m 0 #[.val (.int x0), .val (.int x1), .unset, .unset, .unset, .unset, .unset, .unset] [] := by first | (simp [entryFrame, mkF, argsToLocals, Value.category, maxLocals]; done) | rfl
def Q0 (Z : State) (h0 : Heap) (n0 : Nat) (v : Option Value) (h : Heap) (L : List Loc) : Prop := v = some (.int (1 : Int32)) ∧ Fr n0 L
set_option maxRecDepth 65536 in
set_option maxHeartbeats 40000000 in
theorem rm0 (l : Launch) (Z : State) (a0 : Array Value) (hw : ∀ d ∈ tables_1, d.before a0 Z = true) (ws : List Jvm.Cond) (p1 : Int32) (p2 : Int32) (w7 w6 w4 : Addr) (cl : Cell) (h0 : Heap) (n0 : Nat) (Z0 : n0 ≤ h0.size) (S_HEAD : Sta Z h0 "com/example/rolegate/rolegate/server/http/RequestReader$Stage" "HEAD" "Lcom/example/rolegate/rolegate/server/http/RequestReader$Stage;" (.ref w7)) (E_w7 : Exa Z h0 w7 "com/example/rolegate/rolegate/server/http/RequestReader$Stage") (F_o : Fld Z h0 w7 "java/lang/Enum" "ordinal" "I" (.int (0 : Int32))) (S_DONE : Sta Z h0 "com/example/rolegate/rolegate/server/http/RequestReader$Stage" "DONE" "Lcom/example/rolegate/rolegate/server/http/RequestReader$Stage;" (.ref w4)) (ha7 : ¬ (w7 = w4)) (S_HEAD_END : Sta Z h0 "com/example/rolegate/rolegate/server/http/RequestReader" "HEAD_END" "[B" (.ref w6)) (Ar_6 : Arr Z h0 w6 cl .byte) (hsz : cl.slots.size = 4) :
    MetFree l x (head1 (Jvm.Cond.code x code maxLocals ret :: ws) room_1) (fun a U => a = #[(.int p1), (.int p2)] ∧ Z.Warmed39 U.vm ∧ U.heap = h0) (fun _ _ _ _ _ => True) (fun _ U o U' => ∃ v L, o = .returned v ∧ Q0 Z h0 n0 v U'.heap L ∧ FrameEnd U o U' L room_1.cells room_1.slots) := by
  refine MetFree.of_bodySF (plainFor_of_name pn_0) hisR ?_
  intro p e s m args below meth c s₁ Bd hml0 hP hK
  obtain ⟨rfl, hZ, hh⟩ := hP
  have hx := Bd.exec
  have hby := Bd.bytes
  have hml : c.maxLocals = 8 := hml0
  have hown : s.vm.findClass "com/example/rolegate/rolegate/server/http/RequestReaderTakeContinuePinLaw" = some m.cls := findClass_of_methodNamed Bd.named
  have hnm := (name_of_methodNamed Bd.named Bd.method).1
  have X0 : Stand p l e room_1 s m #[(.int p1), (.int p2)] below meth c s₁ [] 0 0 := Stand.of_body Bd
  have e0 : s₁.heap = h0 := by rw [← hh, Bd.state]; rfl
  have N0 := Fr.nil n0
  have pre0 : ∀ t, Steps p.tables e below (s₁.setTop (mkF m 0 #[.val (.int p1), .val (.int p2), .unset, .unset, .unset, .unset, .unset, .unset] [])) t → Steps p.tables e below (s₁.setTop (entryFrame m #[(.int p1), (.int p2)] maxLocals)) t := fun t k => castTop (ef_0 m p1 p2) k
  -- 3. LAWS
  obtain ⟨T3, h3, X3, e3, E3, A3, D3, -, st3⟩ := newO X0 hx hZ hown (hw _ (List.mem_of_getElem? (i := 0) rfl)) (hw _ (List.mem_of_getElem? (i := 1) rfl)) (hw _ (List.mem_of_getElem? (i := 2) rfl)) e0 (g := (mkF m 0 #[.val (.int p1), .val (.int p2), .unset, .unset, .unset, .unset, .unset, .unset] [])) rfl (hb hby at_0) (by decide) (by decide)
  obtain ⟨b3, g3⟩ : ∃ z, z = h0.size := ⟨_, rfl⟩      -- the fresh object's address
  rw [← g3] at A3 D3 st3      -- A3 : Exa Z h3 b3 "com/example/rolegate/rolegate/server/http/RequestReader"; E3 : Ext h0 h3 (carries every older fact: .ext E3)
  have F_buffer_b3 : Fld Z h3 b3 "com/example/rolegate/rolegate/server/http/RequestReader" "buffer" "[B" .null := D3 (Or.inl (hw _ (List.mem_of_getElem? (i := 12) rfl))) (ty := (.array .byte)) (by decide)
  have F_stage_b3 : Fld Z h3 b3 "com/example/rolegate/rolegate/server/http/RequestReader" "stage" "Lcom/example/rolegate/rolegate/server/http/RequestReader$Stage;" .null := D3 (Or.inl (hw _ (List.mem_of_getElem? (i := 17) rfl))) (ty := (.object "com/example/rolegate/rolegate/server/http/RequestReader$Stage")) (by decide)
  have F_headBytes_b3 : Fld Z h3 b3 "com/example/rolegate/rolegate/server/http/RequestReader" "headBytes" "I" (.int (0 : Int32)) := D3 (Or.inr (hw _ (List.mem_of_getElem? (i := 19) rfl))) (ty := .int) (by decide)
  have F_bodyBytes_b3 : Fld Z h3 b3 "com/example/rolegate/rolegate/server/http/RequestReader" "bodyBytes" "I" (.int (0 : Int32)) := D3 (Or.inr (hw _ (List.mem_of_getElem? (i := 21) rfl))) (ty := .int) (by decide)
  have F_continueDue_b3 : Fld Z h3 b3 "com/example/rolegate/rolegate/server/http/RequestReader" "continueDue" "Z" (.int (0 : Int32)) := D3 (Or.inl (hw _ (List.mem_of_getElem? (i := 28) rfl))) (ty := .boolean) (by decide)
  have F_end_b3 : Fld Z h3 b3 "com/example/rolegate/rolegate/server/http/RequestReader" "end" "I" (.int (0 : Int32)) := D3 (Or.inl (hw _ (List.mem_of_getElem? (i := 50) rfl))) (ty := .int) (by decide)
  have F_start_b3 : Fld Z h3 b3 "com/example/rolegate/rolegate/server/http/RequestReader" "start" "I" (.int (0 : Int32)) := D3 (Or.inl (hw _ (List.mem_of_getElem? (i := 52) rfl))) (ty := .int) (by decide)
  have F_scanned_b3 : Fld Z h3 b3 "com/example/rolegate/rolegate/server/http/RequestReader" "scanned" "I" (.int (0 : Int32)) := D3 (Or.inl (hw _ (List.mem_of_getElem? (i := 56) rfl))) (ty := .int) (by decide)
  have F_head_b3 : Fld Z h3 b3 "com/example/rolegate/rolegate/server/http/RequestReader" "head" "Lcom/example/rolegate/rolegate/server/http/RequestReader$Head;" .null := D3 (Or.inl (hw _ (List.mem_of_getElem? (i := 71) rfl))) (ty := (.object "com/example/rolegate/rolegate/server/http/RequestReader$Head")) (by decide)
  have F_body_b3 : Fld Z h3 b3 "com/example/rolegate/rolegate/server/http/RequestReader" "body" "Ljava/io/ByteArrayOutputStream;" .null := D3 (Or.inl (hw _ (List.mem_of_getElem? (i := 73) rfl))) (ty := (.object "java/io/ByteArrayOutputStream")) (by decide)
  have F_remaining_b3 : Fld Z h3 b3 "com/example/rolegate/rolegate/server/http/RequestReader" "remaining" "J" (.long (0 : Int64)) := D3 (Or.inl (hw _ (List.mem_of_getElem? (i := 75) rfl))) (ty := .long) (by decide)
  have E_b3 := A3
  have g_b3 : n0 ≤ b3 := Nat.le_trans Z0 (Nat.le_of_eq g3.symm)
  have sz_b3 : h0.size ≤ b3 := (Nat.le_trans (Keep.refl h0 []).1 (Nat.le_of_eq g3.symm))
  have K3 : Keep h0 h3 [] := (Keep.refl h0 []).ext E3
  -- pc 9: the constructor of com/example/rolegate/rolegate/server/http/RequestReader by its contract rm1
  obtain ⟨_, _, ⟨T4, L4, k4, n4⟩, -, X4, ⟨Lc4, hQ4, l4, y4, z4⟩, st4⟩ := X3.specialBack hx (y := (⟨"com/example/rolegate/rolegate/server/http/RequestReader", "<init>", "(II)V"⟩ : MethodName)) rfl hown (mvT hZ (hw _ (List.mem_of_getElem? (i := 4) rfl))) (mvT hZ (hw _ (List.mem_of_getElem? (i := 5) rfl))) (mvT hZ (hw _ (List.mem_of_getElem? (i := 6) rfl))) (by decide) (backOf (W := 1) (rm1 l Z a0 hw [] b3 w7 (p1 &&& (2147483647 : Int32)) p2 h3 n0 (Nat.le_trans Z0 E3.1) E_b3 F_buffer_b3 g_b3 (S_HEAD.ext E3) F_stage_b3 F_headBytes_b3 F_bodyBytes_b3 F_continueDue_b3 F_end_b3 F_start_b3 F_scanned_b3) hZ (hw _ (List.mem_of_getElem? (i := 6) rfl)) (hw _ (List.mem_of_getElem? (i := 2) rfl)) (by decide) (by decide)) (g := (mkF m 9 #[.val (.int p1), .val (.int p2), .unset, .unset, .unset, .unset, .unset, .unset] [(.int p2), (.int (p1 &&& (2147483647 : Int32))), (.ref b3), (.ref b3)])) rfl (by rw [hml]; rfl) (Steps.refl _) (a := b3) (argsL := [(.int (p1 &&& (2147483647 : Int32))), (.int p2)]) (rest := [(.ref b3)]) (lenOf pd_0_0 rfl) rfl (by show 2 * 0 + _ ≤ _; exact Nat.le_of_eq rfl) (hb hby at_9) (fun _ _ => ⟨rfl, e3, (by decide : 1 + 1 ≤ _), (by decide : 12 + 512 ≤ _)⟩)
  dsimp only [Pt.U, Pt.locs, Pt.cells, Pt.slots] at X4 l4 y4 z4 st4 hQ4
  subst l4 y4 z4
  obtain ⟨rfl, N4q, K4, O4⟩ := hQ4
  have nw7 : w7 ∉ [b3] := fun q => (Nat.ne_of_lt (Nat.lt_of_lt_of_le E_w7.lt (Nat.le_of_eq g3.symm))) (List.mem_singleton.mp q)
  have nw6 : w6 ∉ [b3] := fun q => (Nat.ne_of_lt (Nat.lt_of_lt_of_le Ar_6.lt (Nat.le_of_eq g3.symm))) (List.mem_singleton.mp q)
  have hnb : ¬ ((p1 &&& (2147483647 : Int32)) < 0) := by
    have q := (c_and p1 (2147483647 : Int32) (by decide)).1
    rw [Int32.lt_iff_toInt_lt, show (0 : Int32).toInt = 0 from rfl]; omega
  have nst : ∀ {C f d : String} {v : Value} {h h' : Heap}, Keep h h' [b3] → (∀ c : Cell, h[b3]? = some c → c.vm.isStatics = false) → Sta Z h C f d v → Sta Z h' C f d v := fun K q F => by
    obtain ⟨cf, i, k, f, st, cell, h1, h2, h3, h4, h5, h6, h7⟩ := F
    refine ⟨cf, i, k, f, st, cell, h1, h2, h3, h4, K.2.1 _ _ h5 (fun z => ?_), h6, h7⟩
    cases List.mem_singleton.mp z
    rw [q _ h5] at h6; cases h6
  have Z4 : n0 ≤ T4.heap.size := Nat.le_trans (Nat.le_trans Z0 E3.1) K4.1
  have sp4 := own_plain E_b3
  have SE4 := nst K4 sp4 (S_HEAD_END.ext E3)
  have SD4 := nst K4 sp4 (S_DONE.ext E3)
  have SH4 := nst K4 sp4 (S_HEAD.ext E3)
  have AR4 : Arr Z T4.heap w6 cl .byte := ⟨K4.2.1 _ _ (Ar_6.ext E3).1 nw6, (Ar_6.ext E3).2⟩
  have E7_4 := (E_w7.ext E3).keep K4
  have FO4 := (F_o.ext E3).keep K4 nw7
  have N4 := Fr.app N0 N4q
  -- pc 14: com/example/rolegate/rolegate/server/http/RequestReader.takeContinue by the contract of the body that the receiver's class selects, rm3
  obtain ⟨cq5, kq5, q5a, q5b, q5c⟩ := isOf hZ rfl O4.1
  obtain ⟨_, _, ⟨T5, L5, k5, n5⟩, -, X5, ⟨Lc5, hQ5, l5, y5, z5⟩, st5⟩ := X4.virtualBack hx (y := (⟨"com/example/rolegate/rolegate/server/http/RequestReader", "takeContinue", "()Z"⟩ : MethodName)) (z := (⟨"com/example/rolegate/rolegate/server/http/RequestReader", "takeContinue", "()Z"⟩ : MethodName)) hown (mvT hZ (hw _ (List.mem_of_getElem? (i := 22) rfl))) (mvT hZ (hw _ (List.mem_of_getElem? (i := 23) rfl))) (notFace_of_selects (args := #[]) (mvT hZ (hw _ (List.mem_of_getElem? (i := 25) rfl)))) (mvT hZ (hw _ (List.mem_of_getElem? (i := 25) rfl))) (mvT hZ (hw _ (List.mem_of_getElem? (i := 24) rfl))) (by decide) (backOf (W := 0) (rm3 l Z a0 hw [] b3 w7 (p1 &&& (2147483647 : Int32)) T4.heap n0 Z4 O4 g_b3) hZ (hw _ (List.mem_of_getElem? (i := 26) rfl)) (hw _ (List.mem_of_getElem? (i := 2) rfl)) (by decide) (by decide)) q5a q5c (g := (mkF m 14 #[.val (.int p1), .val (.int p2), .val (.ref b3), .unset, .unset, .unset, .unset, .unset] [(.ref b3)])) rfl (by rw [hml]; rfl) (Steps.refl _) (argsL := []) (rest := []) (lenOf pd_0_2 rfl) rfl (by show 2 * 0 + _ ≤ _; exact Nat.le_of_eq rfl) (hb hby at_14) (fun _ _ => ⟨rfl, rfl, (by decide : 2 + 0 ≤ _), (by decide : 524 + 0 ≤ _)⟩)
  dsimp only [Pt.U, Pt.locs, Pt.cells, Pt.slots] at X5 l5 y5 z5 st5 hQ5
  subst l5 y5 z5
  obtain ⟨rfl, N5q, K5, O5⟩ := hQ5
  have Z5 : n0 ≤ T5.heap.size := Nat.le_trans Z4 K5.1
  have sp5 := own_plain O4.1
  have SE5 := nst K5 sp5 SE4
  have SD5 := nst K5 sp5 SD4
  have SH5 := nst K5 sp5 SH4
  have AR5 : Arr Z T5.heap w6 cl .byte := ⟨K5.2.1 _ _ AR4.1 nw6, AR4.2⟩
  have E7_5 := E7_4.keep K5
  have FO5 := FO4.keep K5 nw7
  have N5 := Fr.app N4 N5q
  -- pc 19: com/example/rolegate/rolegate/server/http/RequestReader.next by the contract of the body that the receiver's class selects, rm4
  obtain ⟨cq6, kq6, q6a, q6b, q6c⟩ := isOf hZ rfl O5.1
  obtain ⟨_, _, ⟨T6, L6, k6, n6⟩, -, X6, ⟨Lc6, hQ6, l6, y6, z6⟩, st6⟩ := X5.virtualBack hx (y := (⟨"com/example/rolegate/rolegate/server/http/RequestReader", "next", "()Lcom/example/rolegate/rolegate/server/http/RequestReader$Incoming;"⟩ : MethodName)) (z := (⟨"com/example/rolegate/rolegate/server/http/RequestReader", "next", "()Lcom/example/rolegate/rolegate/server/http/RequestReader$Incoming;"⟩ : MethodName)) hown (mvT hZ (hw _ (List.mem_of_getElem? (i := 29) rfl))) (mvT hZ (hw _ (List.mem_of_getElem? (i := 30) rfl))) (notFace_of_selects (args := #[]) (mvT hZ (hw _ (List.mem_of_getElem? (i := 32) rfl)))) (mvT hZ (hw _ (List.mem_of_getElem? (i := 32) rfl))) (mvT hZ (hw _ (List.mem_of_getElem? (i := 31) rfl))) (by decide) (backOf (W := 0) (rm4 l Z a0 hw [] b3 w7 (p1 &&& (2147483647 : Int32)) w6 w4 cl T5.heap n0 Z5 O5 g_b3 SE5 AR5 hsz hnb SD5 E7_5 FO5 ha7) hZ (hw _ (List.mem_of_getElem? (i := 33) rfl)) (hw _ (List.mem_of_getElem? (i := 2) rfl)) (by decide) (by decide)) q6a q6c (g := (mkF m 19 #[.val (.int p1), .val (.int p2), .val (.ref b3), .val (.int (0 : Int32)), .unset, .unset, .unset, .unset] [(.ref b3)])) rfl (by rw [hml]; rfl) (Steps.refl _) (argsL := []) (rest := []) (lenOf pd_0_3 rfl) rfl (by show 2 * 0 + _ ≤ _; exact Nat.le_of_eq rfl) (hb hby at_19) (fun _ _ => ⟨rfl, rfl, (by decide : 2 + 0 ≤ _), (by decide : 524 + 0 ≤ _)⟩)
  dsimp only [Pt.U, Pt.locs, Pt.cells, Pt.slots] at X6 l6 y6 z6 st6 hQ6
  subst l6 y6 z6
  obtain ⟨rfl, N6q, K6, O6⟩ := hQ6
  have Z6 : n0 ≤ T6.heap.size := Nat.le_trans Z5 K6.1
  have sp6 := own_plain O5.1
  have SE6 := nst K6 sp6 SE5
  have SD6 := nst K6 sp6 SD5
  have SH6 := nst K6 sp6 SH5
  have AR6 : Arr Z T6.heap w6 cl .byte := ⟨K6.2.1 _ _ AR5.1 nw6, AR5.2⟩
  have E7_6 := E7_5.keep K6
  have FO6 := FO5.keep K6 nw7
  have N6 := Fr.app N5 N6q
  -- pc 25: com/example/rolegate/rolegate/server/http/RequestReader.takeContinue by the contract of the body that the receiver's class selects, rm3
  obtain ⟨cq7, kq7, q7a, q7b, q7c⟩ := isOf hZ rfl O6.1
  obtain ⟨_, _, ⟨T7, L7, k7, n7⟩, -, X7, ⟨Lc7, hQ7, l7, y7, z7⟩, st7⟩ := X6.virtualBack hx (y := (⟨"com/example/rolegate/rolegate/server/http/RequestReader", "takeContinue", "()Z"⟩ : MethodName)) (z := (⟨"com/example/rolegate/rolegate/server/http/RequestReader", "takeContinue", "()Z"⟩ : MethodName)) hown (mvT hZ (hw _ (List.mem_of_getElem? (i := 22) rfl))) (mvT hZ (hw _ (List.mem_of_getElem? (i := 23) rfl))) (notFace_of_selects (args := #[]) (mvT hZ (hw _ (List.mem_of_getElem? (i := 25) rfl)))) (mvT hZ (hw _ (List.mem_of_getElem? (i := 25) rfl))) (mvT hZ (hw _ (List.mem_of_getElem? (i := 24) rfl))) (by decide) (backOf (W := 0) (rm3 l Z a0 hw [] b3 w7 (p1 &&& (2147483647 : Int32)) T6.heap n0 Z6 O6 g_b3) hZ (hw _ (List.mem_of_getElem? (i := 26) rfl)) (hw _ (List.mem_of_getElem? (i := 2) rfl)) (by decide) (by decide)) q7a q7c (g := (mkF m 25 #[.val (.int p1), .val (.int p2), .val (.ref b3), .val (.int (0 : Int32)), .val .null, .unset, .unset, .unset] [(.ref b3)])) rfl (by rw [hml]; rfl) (Steps.refl _) (argsL := []) (rest := []) (lenOf pd_0_2 rfl) rfl (by show 2 * 0 + _ ≤ _; exact Nat.le_of_eq rfl) (hb hby at_25) (fun _ _ => ⟨rfl, rfl, (by decide : 2 + 0 ≤ _), (by decide : 524 + 0 ≤ _)⟩)
  dsimp only [Pt.U, Pt.locs, Pt.cells, Pt.slots] at X7 l7 y7 z7 st7 hQ7
  subst l7 y7 z7
  obtain ⟨rfl, N7q, K7, O7⟩ := hQ7
  have Z7 : n0 ≤ T7.heap.size := Nat.le_trans Z6 K7.1
  have sp7 := own_plain O6.1
  have SE7 := nst K7 sp7 SE6
  have SD7 := nst K7 sp7 SD6
  have SH7 := nst K7 sp7 SH6
  have AR7 : Arr Z T7.heap w6 cl .byte := ⟨K7.2.1 _ _ AR6.1 nw6, AR6.2⟩
  have E7_7 := E7_6.keep K7
  have FO7 := FO6.keep K7 nw7
  have N7 := Fr.app N6 N7q
  -- pc 31: com/example/rolegate/rolegate/server/http/RequestReader.takeContinue by the contract of the body that the receiver's class selects, rm3
  obtain ⟨cq8, kq8, q8a, q8b, q8c⟩ := isOf hZ rfl O7.1
  obtain ⟨_, _, ⟨T8, L8, k8, n8⟩, -, X8, ⟨Lc8, hQ8, l8, y8, z8⟩, st8⟩ := X7.virtualBack hx (y := (⟨"com/example/rolegate/rolegate/server/http/RequestReader", "takeContinue", "()Z"⟩ : MethodName)) (z := (⟨"com/example/rolegate/rolegate/server/http/RequestReader", "takeContinue", "()Z"⟩ : MethodName)) hown (mvT hZ (hw _ (List.mem_of_getElem? (i := 22) rfl))) (mvT hZ (hw _ (List.mem_of_getElem? (i := 23) rfl))) (notFace_of_selects (args := #[]) (mvT hZ (hw _ (List.mem_of_getElem? (i := 25) rfl)))) (mvT hZ (hw _ (List.mem_of_getElem? (i := 25) rfl))) (mvT hZ (hw _ (List.mem_of_getElem? (i := 24) rfl))) (by decide) (backOf (W := 0) (rm3 l Z a0 hw [] b3 w7 (p1 &&& (2147483647 : Int32)) T7.heap n0 Z7 O7 g_b3) hZ (hw _ (List.mem_of_getElem? (i := 26) rfl)) (hw _ (List.mem_of_getElem? (i := 2) rfl)) (by decide) (by decide)) q8a q8c (g := (mkF m 31 #[.val (.int p1), .val (.int p2), .val (.ref b3), .val (.int (0 : Int32)), .val .null, .val (.int (0 : Int32)), .unset, .unset] [(.ref b3)])) rfl (by rw [hml]; rfl) (Steps.refl _) (argsL := []) (rest := []) (lenOf pd_0_2 rfl) rfl (by show 2 * 0 + _ ≤ _; exact Nat.le_of_eq rfl) (hb hby at_31) (fun _ _ => ⟨rfl, rfl, (by decide : 2 + 0 ≤ _), (by decide : 524 + 0 ≤ _)⟩)
  dsimp only [Pt.U, Pt.locs, Pt.cells, Pt.slots] at X8 l8 y8 z8 st8 hQ8
  subst l8 y8 z8
  obtain ⟨rfl, N8q, K8, O8⟩ := hQ8
  have Z8 : n0 ≤ T8.heap.size := Nat.le_trans Z7 K8.1
  have sp8 := own_plain O7.1
  have SE8 := nst K8 sp8 SE7
  have SD8 := nst K8 sp8 SD7
  have SH8 := nst K8 sp8 SH7
  have AR8 : Arr Z T8.heap w6 cl .byte := ⟨K8.2.1 _ _ AR7.1 nw6, AR7.2⟩
  have E7_8 := E7_7.keep K8
  have FO8 := FO7.keep K8 nw7
  have N8 := Fr.app N7 N8q
  -- pc 37: com/example/rolegate/rolegate/server/http/RequestReader.started by the contract of the body that the receiver's class selects, rm9
  obtain ⟨cq9, kq9, q9a, q9b, q9c⟩ := isOf hZ rfl O8.1
  obtain ⟨_, _, ⟨T9, L9, k9, n9⟩, -, X9, ⟨Lc9, hQ9, l9, y9, z9⟩, st9⟩ := X8.virtualBack hx (y := (⟨"com/example/rolegate/rolegate/server/http/RequestReader", "started", "()Z"⟩ : MethodName)) (z := (⟨"com/example/rolegate/rolegate/server/http/RequestReader", "started", "()Z"⟩ : MethodName)) hown (mvT hZ (hw _ (List.mem_of_getElem? (i := 65) rfl))) (mvT hZ (hw _ (List.mem_of_getElem? (i := 66) rfl))) (notFace_of_selects (args := #[]) (mvT hZ (hw _ (List.mem_of_getElem? (i := 68) rfl)))) (mvT hZ (hw _ (List.mem_of_getElem? (i := 68) rfl))) (mvT hZ (hw _ (List.mem_of_getElem? (i := 67) rfl))) (by decide) (backOf (W := 0) (rm9 l Z a0 hw [] b3 w7 (p1 &&& (2147483647 : Int32)) T8.heap n0 Z8 O8 SH8) hZ (hw _ (List.mem_of_getElem? (i := 69) rfl)) (hw _ (List.mem_of_getElem? (i := 2) rfl)) (by decide) (by decide)) q9a q9c (g := (mkF m 37 #[.val (.int p1), .val (.int p2), .val (.ref b3), .val (.int (0 : Int32)), .val .null, .val (.int (0 : Int32)), .val (.int (0 : Int32)), .unset] [(.ref b3)])) rfl (by rw [hml]; rfl) (Steps.refl _) (argsL := []) (rest := []) (lenOf pd_0_2 rfl) rfl (by show 2 * 0 + _ ≤ _; exact Nat.le_of_eq rfl) (hb hby at_37) (fun _ _ => ⟨rfl, rfl, (by decide : 2 + 0 ≤ _), (by decide : 524 + 0 ≤ _)⟩)
  dsimp only [Pt.U, Pt.locs, Pt.cells, Pt.slots] at X9 l9 y9 z9 st9 hQ9
  subst l9 y9 z9
  obtain ⟨rfl, N9q, e9q⟩ := hQ9
  have N9 := Fr.app N8 N9q
  obtain ⟨fs, hr, hrun, hended, hW, hsame⟩ := X9.leave (v := some (.int (1 : Int32))) (fun h => by rw [Bd.returns] at h; cases h)
  refine ⟨_, _, pre0 _ ?_, hrun, hended, _, _, rfl, ?_, ⟨_, rfl⟩, hW, hsame.mono (by decide) (by decide)⟩
  -- 4. STEPS
  · show Steps p.tables e below (s₁.setTop (mkF m 0 #[.val (.int p1), .val (.int p2), .unset, .unset, .unset, .unset, .unset, .unset] [])) _
    refine st3 _ ?_
    show Steps p.tables e below (T3.setTop (mkF m 3 #[.val (.int p1), .val (.int p2), .unset, .unset, .unset, .unset, .unset, .unset] [(.ref b3)])) _
    refine XS.dup X3.here hx rfl (hb hby at_3) rfl rfl ?_
    show Steps p.tables e below (T3.setTop (mkF m 4 #[.val (.int p1), .val (.int p2), .unset, .unset, .unset, .unset, .unset, .unset] [(.ref b3), (.ref b3)])) _
    refine XS.iloadN X3.here hx rfl (hb hby at_4) rfl ?_
    show Steps p.tables e below (T3.setTop (mkF m 5 #[.val (.int p1), .val (.int p2), .unset, .unset, .unset, .unset, .unset, .unset] [(.int p1), (.ref b3), (.ref b3)])) _
    refine X3.ldcInt hx hown (mvT hZ (hw _ (List.mem_of_getElem? (i := 3) rfl))) (g := (mkF m 5 #[.val (.int p1), .val (.int p2), .unset, .unset, .unset, .unset, .unset, .unset] [(.int p1), (.ref b3), (.ref b3)])) rfl (hb hby at_5) _ ?_
    show Steps p.tables e below (T3.setTop (mkF m 7 #[.val (.int p1), .val (.int p2), .unset, .unset, .unset, .unset, .unset, .unset] [(.int (2147483647 : Int32)), (.int p1), (.ref b3), (.ref b3)])) _
    refine XS.iand X3.here hx rfl (hb hby at_7) rfl ?_
    show Steps p.tables e below (T3.setTop (mkF m 8 #[.val (.int p1), .val (.int p2), .unset, .unset, .unset, .unset, .unset, .unset] [(.int (p1 &&& (2147483647 : Int32))), (.ref b3), (.ref b3)])) _
    refine XS.iloadN X3.here hx rfl (hb hby at_8) rfl ?_
    show Steps p.tables e below (T3.setTop (mkF m 9 #[.val (.int p1), .val (.int p2), .unset, .unset, .unset, .unset, .unset, .unset] [(.int p2), (.int (p1 &&& (2147483647 : Int32))), (.ref b3), (.ref b3)])) _
    refine st4.trans ?_
    show Steps p.tables e below (T4.setTop (mkF m 12 #[.val (.int p1), .val (.int p2), .unset, .unset, .unset, .unset, .unset, .unset] [(.ref b3)])) _
    refine XS.astoreN X4.here hx rfl (hb hby at_12) rfl rfl (l' := #[.val (.int p1), .val (.int p2), .val (.ref b3), .unset, .unset, .unset, .unset, .unset]) rfl ?_
    show Steps p.tables e below (T4.setTop (mkF m 13 #[.val (.int p1), .val (.int p2), .val (.ref b3), .unset, .unset, .unset, .unset, .unset] [])) _
    refine XS.aloadN X4.here hx rfl (hb hby at_13) rfl rfl ?_
    show Steps p.tables e below (T4.setTop (mkF m 14 #[.val (.int p1), .val (.int p2), .val (.ref b3), .unset, .unset, .unset, .unset, .unset] [(.ref b3)])) _
    refine st5.trans ?_
    show Steps p.tables e below (T5.setTop (mkF m 17 #[.val (.int p1), .val (.int p2), .val (.ref b3), .unset, .unset, .unset, .unset, .unset] [(.int (0 : Int32))])) _
    refine XS.istoreN X5.here hx rfl (hb hby at_17) rfl (l' := #[.val (.int p1), .val (.int p2), .val (.ref b3), .val (.int (0 : Int32)), .unset, .unset, .unset, .unset]) rfl ?_
    show Steps p.tables e below (T5.setTop (mkF m 18 #[.val (.int p1), .val (.int p2), .val (.ref b3), .val (.int (0 : Int32)), .unset, .unset, .unset, .unset] [])) _
    refine XS.aloadN X5.here hx rfl (hb hby at_18) rfl rfl ?_
    show Steps p.tables e below (T5.setTop (mkF m 19 #[.val (.int p1), .val (.int p2), .val (.ref b3), .val (.int (0 : Int32)), .unset, .unset, .unset, .unset] [(.ref b3)])) _
    refine st6.trans ?_
    show Steps p.tables e below (T6.setTop (mkF m 22 #[.val (.int p1), .val (.int p2), .val (.ref b3), .val (.int (0 : Int32)), .unset, .unset, .unset, .unset] [.null])) _
    refine XS.astore X6.here hx rfl (hb hby at_22) rfl rfl (l' := #[.val (.int p1), .val (.int p2), .val (.ref b3), .val (.int (0 : Int32)), .val .null, .unset, .unset, .unset]) rfl ?_
    show Steps p.tables e below (T6.setTop (mkF m 24 #[.val (.int p1), .val (.int p2), .val (.ref b3), .val (.int (0 : Int32)), .val .null, .unset, .unset, .unset] [])) _
    refine XS.aloadN X6.here hx rfl (hb hby at_24) rfl rfl ?_
    show Steps p.tables e below (T6.setTop (mkF m 25 #[.val (.int p1), .val (.int p2), .val (.ref b3), .val (.int (0 : Int32)), .val .null, .unset, .unset, .unset] [(.ref b3)])) _
    refine st7.trans ?_
    show Steps p.tables e below (T7.setTop (mkF m 28 #[.val (.int p1), .val (.int p2), .val (.ref b3), .val (.int (0 : Int32)), .val .null, .unset, .unset, .unset] [(.int (0 : Int32))])) _
    refine XS.istore X7.here hx rfl (hb hby at_28) rfl (l' := #[.val (.int p1), .val (.int p2), .val (.ref b3), .val (.int (0 : Int32)), .val .null, .val (.int (0 : Int32)), .unset, .unset]) rfl ?_
    show Steps p.tables e below (T7.setTop (mkF m 30 #[.val (.int p1), .val (.int p2), .val (.ref b3), .val (.int (0 : Int32)), .val .null, .val (.int (0 : Int32)), .unset, .unset] [])) _
    refine XS.aloadN X7.here hx rfl (hb hby at_30) rfl rfl ?_
    show Steps p.tables e below (T7.setTop (mkF m 31 #[.val (.int p1), .val (.int p2), .val (.ref b3), .val (.int (0 : Int32)), .val .null, .val (.int (0 : Int32)), .unset, .unset] [(.ref b3)])) _
    refine st8.trans ?_
    show Steps p.tables e below (T8.setTop (mkF m 34 #[.val (.int p1), .val (.int p2), .val (.ref b3), .val (.int (0 : Int32)), .val .null, .val (.int (0 : Int32)), .unset, .unset] [(.int (0 : Int32))])) _
    refine XS.istore X8.here hx rfl (hb hby at_34) rfl (l' := #[.val (.int p1), .val (.int p2), .val (.ref b3), .val (.int (0 : Int32)), .val .null, .val (.int (0 : Int32)), .val (.int (0 : Int32)), .unset]) rfl ?_
    show Steps p.tables e below (T8.setTop (mkF m 36 #[.val (.int p1), .val (.int p2), .val (.ref b3), .val (.int (0 : Int32)), .val .null, .val (.int (0 : Int32)), .val (.int (0 : Int32)), .unset] [])) _
    refine XS.aloadN X8.here hx rfl (hb hby at_36) rfl rfl ?_
    show Steps p.tables e below (T8.setTop (mkF m 37 #[.val (.int p1), .val (.int p2), .val (.ref b3), .val (.int (0 : Int32)), .val .null, .val (.int (0 : Int32)), .val (.int (0 : Int32)), .unset] [(.ref b3)])) _
    refine st9.trans ?_
    show Steps p.tables e below (T9.setTop (mkF m 40 #[.val (.int p1), .val (.int p2), .val (.ref b3), .val (.int (0 : Int32)), .val .null, .val (.int (0 : Int32)), .val (.int (0 : Int32)), .unset] [(.int (0 : Int32))])) _
    refine XS.istore X9.here hx rfl (hb hby at_40) rfl (l' := #[.val (.int p1), .val (.int p2), .val (.ref b3), .val (.int (0 : Int32)), .val .null, .val (.int (0 : Int32)), .val (.int (0 : Int32)), .val (.int (0 : Int32))]) rfl ?_
    show Steps p.tables e below (T9.setTop (mkF m 42 #[.val (.int p1), .val (.int p2), .val (.ref b3), .val (.int (0 : Int32)), .val .null, .val (.int (0 : Int32)), .val (.int (0 : Int32)), .val (.int (0 : Int32))] [])) _
    refine XS.iloadN X9.here hx rfl (hb hby at_42) rfl ?_
    show Steps p.tables e below (T9.setTop (mkF m 43 #[.val (.int p1), .val (.int p2), .val (.ref b3), .val (.int (0 : Int32)), .val .null, .val (.int (0 : Int32)), .val (.int (0 : Int32)), .val (.int (0 : Int32))] [(.int (0 : Int32))])) _
    refine XS.ifNo X9.here hx rfl (hb hby at_43) rfl ((if0 _ _).trans (teq (by decide : (0 : Int32) = (0 : Int32))).2) ?_
    show Steps p.tables e below (T9.setTop (mkF m 46 #[.val (.int p1), .val (.int p2), .val (.ref b3), .val (.int (0 : Int32)), .val .null, .val (.int (0 : Int32)), .val (.int (0 : Int32)), .val (.int (0 : Int32))] [])) _
    refine XS.aload X9.here hx rfl (hb hby at_46) rfl rfl ?_
    show Steps p.tables e below (T9.setTop (mkF m 48 #[.val (.int p1), .val (.int p2), .val (.ref b3), .val (.int (0 : Int32)), .val .null, .val (.int (0 : Int32)), .val (.int (0 : Int32)), .val (.int (0 : Int32))] [.null])) _
    refine XS.ifnonnullNo X9.here hx rfl (hb hby at_48) rfl ?_
    show Steps p.tables e below (T9.setTop (mkF m 51 #[.val (.int p1), .val (.int p2), .val (.ref b3), .val (.int (0 : Int32)), .val .null, .val (.int (0 : Int32)), .val (.int (0 : Int32)), .val (.int (0 : Int32))] [])) _
    refine XS.iload X9.here hx rfl (hb hby at_51) rfl ?_
    show Steps p.tables e below (T9.setTop (mkF m 53 #[.val (.int p1), .val (.int p2), .val (.ref b3), .val (.int (0 : Int32)), .val .null, .val (.int (0 : Int32)), .val (.int (0 : Int32)), .val (.int (0 : Int32))] [(.int (0 : Int32))])) _
    refine XS.ifNo X9.here hx rfl (hb hby at_53) rfl ((if0 _ _).trans (teq (by decide : (0 : Int32) = (0 : Int32))).2) ?_
    show Steps p.tables e below (T9.setTop (mkF m 56 #[.val (.int p1), .val (.int p2), .val (.ref b3), .val (.int (0 : Int32)), .val .null, .val (.int (0 : Int32)), .val (.int (0 : Int32)), .val (.int (0 : Int32))] [])) _
    refine XS.iload X9.here hx rfl (hb hby at_56) rfl ?_
    show Steps p.tables e below (T9.setTop (mkF m 58 #[.val (.int p1), .val (.int p2), .val (.ref b3), .val (.int (0 : Int32)), .val .null, .val (.int (0 : Int32)), .val (.int (0 : Int32)), .val (.int (0 : Int32))] [(.int (0 : Int32))])) _
    refine XS.ifNo X9.here hx rfl (hb hby at_58) rfl ((if0 _ _).trans (teq (by decide : (0 : Int32) = (0 : Int32))).2) ?_
    show Steps p.tables e below (T9.setTop (mkF m 61 #[.val (.int p1), .val (.int p2), .val (.ref b3), .val (.int (0 : Int32)), .val .null, .val (.int (0 : Int32)), .val (.int (0 : Int32)), .val (.int (0 : Int32))] [])) _
    refine XS.iload X9.here hx rfl (hb hby at_61) rfl ?_
    show Steps p.tables e below (T9.setTop (mkF m 63 #[.val (.int p1), .val (.int p2), .val (.ref b3), .val (.int (0 : Int32)), .val .null, .val (.int (0 : Int32)), .val (.int (0 : Int32)), .val (.int (0 : Int32))] [(.int (0 : Int32))])) _
    refine XS.ifNo X9.here hx rfl (hb hby at_63) rfl ((if0 _ _).trans (teq (by decide : (0 : Int32) = (0 : Int32))).2) ?_
    show Steps p.tables e below (T9.setTop (mkF m 66 #[.val (.int p1), .val (.int p2), .val (.ref b3), .val (.int (0 : Int32)), .val .null, .val (.int (0 : Int32)), .val (.int (0 : Int32)), .val (.int (0 : Int32))] [])) _
    refine XS.iconst X9.here hx rfl (hb hby at_66) ?_
    show Steps p.tables e below (T9.setTop (mkF m 67 #[.val (.int p1), .val (.int p2), .val (.ref b3), .val (.int (0 : Int32)), .val .null, .val (.int (0 : Int32)), .val (.int (0 : Int32)), .val (.int (0 : Int32))] [(.int (1 : Int32))])) _
    refine XS.goto X9.here hx rfl (pc0 := 67) (pc' := 71) rfl (hb hby at_67) (by decide) (by decide) ?_
    show Steps p.tables e below (T9.setTop (mkF m 71 #[.val (.int p1), .val (.int p2), .val (.ref b3), .val (.int (0 : Int32)), .val .null, .val (.int (0 : Int32)), .val (.int (0 : Int32)), .val (.int (0 : Int32))] [(.int (1 : Int32))])) _
    exact retN X9 hx (t := .boolean) Bd.returns (by simp) (hb hby at_71) hr
  · show Q0 Z h0 n0 _ _ _
    exact ⟨rfl, N9⟩
theorem own_eqInt {args : Array Value} {s : State} {t : Term} {k : Int32} (h : (Jvm.Cond.eq t (.int k)).value args s none s [] = some true) : t.eval args s none [] s = some (.int k) := by
  obtain ⟨x, y, e1, e2, -, k2⟩ := cmp_v (Or.inl h)
  cases e2
  obtain ⟨z, rfl⟩ := k2
  simp only [Cond.value, e1, Term.eval] at h
  simp at h
  rw [e1, h]
theorem own_len {args : Array Value} {s : State} {t : Term} {a : Addr} {cl : Cell} {k : Int32} (h : (Term.length t).eval args s none [] s = some (.int k)) (ev : t.eval args s none [] s = some (.ref a)) (ha : s.arrayAt? a = some cl) : cl.slots.size < 2 ^ 31 ∧ cl.slots.size.toInt32 = k := by
  by_cases q : cl.slots.size < 2 ^ 31
  · rw [len_f ev ha q] at h
    exact ⟨q, by simpa using h⟩
  · simp [Term.eval, ev, ha, q] at h
set_option maxRecDepth 65536 in
set_option maxHeartbeats 40000000 in
theorem comes_1 {Post : Tables → Env → Array Value → State → Outcome → State → Prop} (hpost : ∀ tb e args s v u, (limb_1_1.after args s (.returned v) u = true ∧ limb_1_2.after args s (.returned v) u = true ∧ True) → FrameEnd s (.returned v) u (Jvm.fieldLocs frame_1_writes args s ++ Jvm.arrayLocs frame_1_arrays args s ++ Jvm.staticLocs frame_1_statics s) 16 1152 → Post tb e args s (.returned v) u) :
    ArmFor flags0 classFile x code maxLocals ret World_1 tables_1 room_1 Calls_1 rest_1 Pre_1 Post := by
  intro l hfl _ _ p e ha hc hk s m args below hf hA hF happ hP
  obtain ⟨hcalls, hrest, hpre⟩ := hP
  obtain ⟨-, -, -, hnamed, -, -, -, hat⟩ := (Spec.applies_iff hf).mp happ
  obtain ⟨hg, hn⟩ := and_e (Cond.before_iff.mp (show (Jvm.Cond.and given_1 narrow_1).before args s = true from hpre))
  obtain ⟨g10, g11⟩ := and_e hg
  obtain ⟨g12, g13⟩ := and_e g11
  obtain ⟨w0, w1, rfl⟩ : ∃ w0 w1 : Value, args = #[w0, w1] := by
    have hs : args.size = 2 := by simpa [Cond.value, given_1] using g10
    obtain ⟨L⟩ := args
    match L, hs with
    | [w0, w1], _ => exact ⟨w0, w1, rfl⟩
  have hw := fun d (hd : d ∈ tables_1) => atoms_spec (ws := Jvm.Cond.code x code maxLocals ret :: tables_1) hat d (List.mem_cons_of_mem _ hd)
  have hfit : Fit s := fun {y c} hc i hi => by
    obtain ⟨ha, rfl⟩ := Array.getElem?_eq_some_iff.mp hc
    have q := List.all_eq_true.mp ((Array.all_eq_true_iff_forall_mem.mp hF) _ (Array.getElem_mem ha)) i (List.mem_range.mpr hi)
    simpa [Array.getElem?_eq_getElem hi] using q
  obtain ⟨i0, ei0⟩ := is_v g12
  obtain rfl : w0 = (.int i0) := Option.some.inj ei0
  obtain ⟨i1, ei1⟩ := is_v g13
  obtain rfl : w1 = (.int i1) := Option.some.inj ei1
  obtain ⟨n0, hn⟩ := and_e hn
  obtain ⟨n1, hn⟩ := and_e hn
  obtain ⟨n2, hn⟩ := and_e hn
  obtain ⟨n3, hn⟩ := and_e hn
  obtain ⟨n4, hn⟩ := and_e hn
  have n5 := hn
  obtain ⟨a7, e7⟩ := exa_v n0
  have E7 := Exa.start e7 n0
  obtain ⟨a4, e4⟩ := exa_v n1
  have O7 := (fld_at e7).symm.trans (own_eqInt n2)
  have O4 := (fld_at e4).symm.trans (own_eqInt n3)
  have ne74 : ¬ a7 = a4 := fun q => by rw [q, O4] at O7; simp at O7
  have S7 := Sta.start e7 (Or.inr ⟨hw _ (List.mem_of_getElem? (i := 14) rfl), hw _ (List.mem_of_getElem? (i := 15) rfl)⟩)
  have S4 := Sta.start e4 (Or.inr ⟨hw _ (List.mem_of_getElem? (i := 14) rfl), hw _ (List.mem_of_getElem? (i := 35) rfl)⟩)
  obtain ⟨a6, e6⟩ := arr_v n4
  obtain ⟨cl, Ar_6⟩ := Arr.start e6 n4
  have S6 := Sta.start e6 (Or.inr ⟨hw _ (List.mem_of_getElem? (i := 2) rfl), hw _ (List.mem_of_getElem? (i := 54) rfl)⟩)
  have hsz : cl.slots.size = 4 := by
    obtain ⟨q3, q5⟩ := own_len (own_eqInt n5) e6 (Ar_6.fin (Vm.Alike.refl _))
    have q6 := len_toInt q3
    rw [q5] at q6
    have q7 : ((4 : Int32)).toInt = 4 := by decide
    omega
  obtain ⟨n, o, h1, h2, h3, _, L, rfl, ⟨rfl, N⟩, hq⟩ := rm0 l s _ hw tables_1 i0 i1 a7 a6 a4 cl s.heap s.heap.size (Nat.le_refl _) S7 E7 (Fld.start O7) S4 ne74 S6 Ar_6 hsz p e ha hc hk s m _ below hf ((Spec.applies_iff_loose hf).mp happ).1 ⟨rfl, State.Warmed39.refl s, rfl⟩ trivial
  refine ⟨n, _, h1, h2, h3, hpost _ _ _ _ _ _ ⟨Cond.after_iff.mpr rfl, Cond.after_iff.mpr (eq_i res_at (Term.int_eval (1)) rfl), trivial⟩ ⟨hq.1, hq.2.1, (hq.2.2.sift fun y hy => Or.inr (N y hy)).mono (by decide) (by decide)⟩⟩
theorem main_1_1 : Claimed_1_1 := comes_1 fun _ _ _ _ _ _ h hF => ⟨h.1, hF⟩
theorem main_1_2 : Claimed_1_2 := comes_1 fun _ _ _ _ _ _ h hF => ⟨h.2.1, hF⟩
end Jvm.Pilot.@@N@@
namespace Jvm.Pilot.@@N@@
open Jvm Jvm.ClassFile Sem Op Lib Jvm.Free Jvm.Stand Jvm.Pilot.@@N@@.Jvm.D
/-! MADE BY PROGRAM (witnessworld.py) out of the Statement's table words and the real class files: 14 classes; the members and pool entries that the words name. The judged class is class 1, her method 1. -/
namespace start1
open Jvm.ClassFile
def u (s : String) : CpInfo := .utf8 (stringToUtf16 s)
/-- a pool by its gaps: so many unusable entries, then the entry; so many at the end -/
def gap : Nat → List CpInfo → List CpInfo
  | 0, r => r
  | n + 1, r => .unusable :: gap n r
def poolList (es : List (Nat × CpInfo)) (last : Nat) : List CpInfo := es.foldr (fun e r => gap e.1 (e.2 :: r)) (gap last [])
def pool (es : List (Nat × CpInfo)) (last : Nat) : Array CpInfo := ⟨poolList es last⟩
def fileOf (pool : Array CpInfo) (this : Nat) (attrs : Array Attribute := #[]) (ms : Array MethodInfo := #[]) (fl : Nat := 33) (sup : Nat := 0) (ifs : Array Nat := #[]) (fds : Array FieldInfo := #[]) : ClassFile where
  minorVersion := 0
  majorVersion := 65
  constantPool := pool
  accessFlags := fl
  thisClass := this
  superClass := sup
  interfaces := ifs
  fields := fds
  methods := ms
  attributes := attrs
def plain (name : String) (sup : Option ClassId) : Class where
  name := name
  kind := .ordinary
  loader := none
  accessFlags := 33
  super := sup
  interfaces := #[]
  cf := none
  fields := #[]
  methods := #[]
  instanceTypes := #[]
  staticTypes := #[]
  resolved := #[]
  callSites := []
  init := .initialized
  statics := none
  mirror := none

def pool0 : Array CpInfo := pool [(5, u "<init>"), (0, u "()V"), (1, .class_ 10), (1, u "java/lang/Object")] 113

def k0c0 : Code := { maxStack := 0, maxLocals := 1, code := object_method_1_code, exceptionTable := #[], attributes := #[] }
def k0m0 : Method := { name := "<init>", desc := "()V", sig := { parameters := [], returnType := none }, accessFlags := 1, code := some k0c0 }
/-- java/lang/Object -/
def k0 : Class := { plain "java/lang/Object" none with
  accessFlags := 33
  interfaces := #[]
  cf := some (fileOf pool0 8 #[] #[{ accessFlags := 1, nameIndex := 5, descriptorIndex := 6, attributes := #[] }] 33 0 #[] #[])
  fields := #[]
  methods := #[k0m0]
  instanceTypes := #[]
  staticTypes := #[]
  resolved := Array.replicate 124 none
  statics := none }

def pool1 : Array CpInfo := pool [(2, .class_ 4), (1, u "java/lang/Object"), (0, u "<init>"), (0, u "()V"), (0, .class_ 8), (0, u "com/example/rolegate/rolegate/server/http/RequestReader"), (0, .integer 2147483647), (0, .methodref 7 11), (0, .nameAndType 5 12), (0, u "(II)V"), (0, .methodref 7 14), (0, .nameAndType 15 16), (0, u "takeContinue"), (0, u "()Z"), (0, .methodref 7 18), (0, .nameAndType 19 20), (0, u "next"), (0, u "()Lcom/example/rolegate/rolegate/server/http/RequestReader$Incoming;"), (0, .methodref 7 22), (0, .nameAndType 23 16), (0, u "started"), (0, .class_ 25), (0, u "com/example/rolegate/rolegate/server/http/RequestReaderTakeContinuePinLaw"), (2, u "law"), (0, u "(II)Z")] 10

def k1m0 : Method := { name := "<init>", desc := "()V", sig := { parameters := [], returnType := none }, accessFlags := 2, code := none }
def k1c1 : Code := { maxStack := 4, maxLocals := 8, code := code, exceptionTable := #[], attributes := #[] }
def k1m1 : Method := { name := "law", desc := "(II)Z", sig := { parameters := [.int, .int], returnType := some .boolean }, accessFlags := 9, code := some k1c1 }
/-- com/example/rolegate/rolegate/server/http/RequestReaderTakeContinuePinLaw -/
def k1 : Class := { plain "com/example/rolegate/rolegate/server/http/RequestReaderTakeContinuePinLaw" (some 0) with
  accessFlags := 49
  interfaces := #[]
  cf := some (fileOf pool1 24 #[] #[{ accessFlags := 2, nameIndex := 5, descriptorIndex := 6, attributes := #[] }, { accessFlags := 9, nameIndex := 28, descriptorIndex := 29, attributes := #[] }] 49 2 #[] #[])
  fields := #[]
  methods := #[k1m0, k1m1]
  instanceTypes := #[]
  staticTypes := #[]
  resolved := Array.replicate 40 none
  statics := none }

def pool2 : Array CpInfo := pool [(1, .methodref 2 3), (0, .class_ 4), (0, .nameAndType 5 6), (0, u "java/lang/Object"), (0, u "<init>"), (0, u "()V"), (0, .fieldref 8 9), (0, .class_ 10), (0, .nameAndType 11 12), (0, u "com/example/rolegate/rolegate/server/http/RequestReader"), (0, u "buffer"), (0, u "[B"), (0, .fieldref 14 15), (0, .class_ 16), (0, .nameAndType 17 18), (0, u "com/example/rolegate/rolegate/server/http/RequestReader$Stage"), (0, u "HEAD"), (0, u "Lcom/example/rolegate/rolegate/server/http/RequestReader$Stage;"), (0, .fieldref 8 20), (0, .nameAndType 21 18), (0, u "stage"), (0, .fieldref 8 23), (0, .nameAndType 24 25), (0, u "headBytes"), (0, u "I"), (0, .fieldref 8 27), (0, .nameAndType 28 25), (0, u "bodyBytes"), (4, u "remaining"), (0, u "()I"), (0, .fieldref 8 36), (0, .nameAndType 37 25), (0, u "end"), (0, .fieldref 8 39), (0, .nameAndType 40 25), (0, u "start"), (0, .methodref 42 43), (0, .class_ 44), (0, .nameAndType 45 46), (0, u "java/lang/Math"), (0, u "max"), (0, u "(II)I"), (10, .fieldref 14 58), (0, .nameAndType 59 18), (0, u "DONE"), (0, .methodref 14 61), (0, .nameAndType 62 34), (0, u "ordinal"), (5, .methodref 8 69), (0, .nameAndType 70 71), (0, u "readHead"), (0, u "()Z"), (21, .fieldref 8 94), (0, .nameAndType 95 96), (0, u "head"), (0, u "Lcom/example/rolegate/rolegate/server/http/RequestReader$Head;"), (1, .class_ 100), (1, u "com/example/rolegate/rolegate/server/http/RequestReader$Head"), (1, u "Ljava/lang/String;"), (7, .fieldref 8 111), (0, .nameAndType 112 113), (0, u "body"), (0, u "Ljava/io/ByteArrayOutputStream;"), (9, .class_ 124), (0, u "com/example/rolegate/rolegate/server/http/RequestReader$Incoming"), (3, u "Z"), (6, .fieldref 8 136), (0, .nameAndType 137 128), (0, u "continueDue"), (0, .fieldref 8 139), (0, .nameAndType 140 25), (0, u "scanned"), (0, .fieldref 8 142), (0, .nameAndType 143 12), (0, u "HEAD_END"), (0, .methodref 8 145), (0, .nameAndType 146 147), (0, u "indexOf"), (0, u "([BII)I"), (22, u "J"), (0, .class_ 172), (0, u "com/example/rolegate/rolegate/server/http/RequestReader$Refusal"), (4, .fieldref 8 178), (0, .nameAndType 33 170), (14, u "LINE_END"), (48, u "trailerBytes"), (34, u "next"), (25, u "CHUNK_LINE_BYTES"), (2, u "HEX_DIGITS"), (0, u "(II)V"), (5, u "started"), (0, u "()Lcom/example/rolegate/rolegate/server/http/RequestReader$Incoming;"), (1, u "takeContinue")] 15

def k2c0 : Code := { maxStack := 2, maxLocals := 3, code := prog_14_method_1_code, exceptionTable := #[], attributes := #[] }
def k2m0 : Method := { name := "<init>", desc := "(II)V", sig := { parameters := [.int, .int], returnType := none }, accessFlags := 0, code := some k2c0 }
def k2c1 : Code := { maxStack := 2, maxLocals := 1, code := prog_14_method_3_code, exceptionTable := #[], attributes := #[] }
def k2m1 : Method := { name := "started", desc := "()Z", sig := { parameters := [], returnType := some .boolean }, accessFlags := 0, code := some k2c1 }
def k2c2 : Code := { maxStack := 6, maxLocals := 3, code := prog_14_method_4_code, exceptionTable := #[], attributes := #[] }
def k2m2 : Method := { name := "next", desc := "()Lcom/example/rolegate/rolegate/server/http/RequestReader$Incoming;", sig := { parameters := [], returnType := some (.object "com/example/rolegate/rolegate/server/http/RequestReader$Incoming") }, accessFlags := 0, code := some k2c2 }
def k2c3 : Code := { maxStack := 2, maxLocals := 2, code := prog_14_method_5_code, exceptionTable := #[], attributes := #[] }
def k2m3 : Method := { name := "takeContinue", desc := "()Z", sig := { parameters := [], returnType := some .boolean }, accessFlags := 0, code := some k2c3 }
def k2c4 : Code := { maxStack := 7, maxLocals := 2, code := prog_14_method_6_code, exceptionTable := #[], attributes := #[] }
def k2m4 : Method := { name := "readHead", desc := "()Z", sig := { parameters := [], returnType := some .boolean }, accessFlags := 2, code := some k2c4 }
def k2c5 : Code := { maxStack := 3, maxLocals := 6, code := prog_14_method_13_code, exceptionTable := #[], attributes := #[] }
def k2m5 : Method := { name := "indexOf", desc := "([BII)I", sig := { parameters := [(.array .byte), .int, .int], returnType := some .int }, accessFlags := 2, code := some k2c5 }
/-- com/example/rolegate/rolegate/server/http/RequestReader -/
def k2 : Class := { plain "com/example/rolegate/rolegate/server/http/RequestReader" (some 0) with
  accessFlags := 48
  interfaces := #[]
  cf := some (fileOf pool2 8 #[.nestMembers #[171, 123, 98, 14]] #[{ accessFlags := 0, nameIndex := 5, descriptorIndex := 307, attributes := #[] }, { accessFlags := 0, nameIndex := 313, descriptorIndex := 71, attributes := #[] }, { accessFlags := 0, nameIndex := 277, descriptorIndex := 314, attributes := #[] }, { accessFlags := 0, nameIndex := 316, descriptorIndex := 71, attributes := #[] }, { accessFlags := 2, nameIndex := 70, descriptorIndex := 71, attributes := #[] }, { accessFlags := 2, nameIndex := 146, descriptorIndex := 147, attributes := #[] }] 48 2 #[] #[{ accessFlags := 26, nameIndex := 303, descriptorIndex := 25, attributes := #[] }, { accessFlags := 26, nameIndex := 306, descriptorIndex := 102, attributes := #[] }, { accessFlags := 26, nameIndex := 193, descriptorIndex := 12, attributes := #[] }, { accessFlags := 26, nameIndex := 143, descriptorIndex := 12, attributes := #[] }, { accessFlags := 18, nameIndex := 24, descriptorIndex := 25, attributes := #[] }, { accessFlags := 18, nameIndex := 28, descriptorIndex := 25, attributes := #[] }, { accessFlags := 2, nameIndex := 11, descriptorIndex := 12, attributes := #[] }, { accessFlags := 2, nameIndex := 40, descriptorIndex := 25, attributes := #[] }, { accessFlags := 2, nameIndex := 37, descriptorIndex := 25, attributes := #[] }, { accessFlags := 2, nameIndex := 21, descriptorIndex := 18, attributes := #[] }, { accessFlags := 2, nameIndex := 140, descriptorIndex := 25, attributes := #[] }, { accessFlags := 2, nameIndex := 95, descriptorIndex := 96, attributes := #[] }, { accessFlags := 2, nameIndex := 112, descriptorIndex := 113, attributes := #[] }, { accessFlags := 2, nameIndex := 33, descriptorIndex := 170, attributes := #[] }, { accessFlags := 2, nameIndex := 242, descriptorIndex := 25, attributes := #[] }, { accessFlags := 2, nameIndex := 137, descriptorIndex := 128, attributes := #[] }])
  fields := #[{ name := "CHUNK_LINE_BYTES", type := .int, accessFlags := 26, slot := 0, constantValue := 0 }, { name := "HEX_DIGITS", type := (.object "java/lang/String"), accessFlags := 26, slot := 1, constantValue := 0 }, { name := "LINE_END", type := (.array .byte), accessFlags := 26, slot := 2, constantValue := 0 }, { name := "HEAD_END", type := (.array .byte), accessFlags := 26, slot := 3, constantValue := 0 }, { name := "headBytes", type := .int, accessFlags := 18, slot := 0, constantValue := 0 }, { name := "bodyBytes", type := .int, accessFlags := 18, slot := 1, constantValue := 0 }, { name := "buffer", type := (.array .byte), accessFlags := 2, slot := 2, constantValue := 0 }, { name := "start", type := .int, accessFlags := 2, slot := 3, constantValue := 0 }, { name := "end", type := .int, accessFlags := 2, slot := 4, constantValue := 0 }, { name := "stage", type := (.object "com/example/rolegate/rolegate/server/http/RequestReader$Stage"), accessFlags := 2, slot := 5, constantValue := 0 }, { name := "scanned", type := .int, accessFlags := 2, slot := 6, constantValue := 0 }, { name := "head", type := (.object "com/example/rolegate/rolegate/server/http/RequestReader$Head"), accessFlags := 2, slot := 7, constantValue := 0 }, { name := "body", type := (.object "java/io/ByteArrayOutputStream"), accessFlags := 2, slot := 8, constantValue := 0 }, { name := "remaining", type := .long, accessFlags := 2, slot := 9, constantValue := 0 }, { name := "trailerBytes", type := .int, accessFlags := 2, slot := 10, constantValue := 0 }, { name := "continueDue", type := .boolean, accessFlags := 2, slot := 11, constantValue := 0 }]
  methods := #[k2m0, k2m1, k2m2, k2m3, k2m4, k2m5]
  instanceTypes := #[.int, .int, (.array .byte), .int, .int, (.object "com/example/rolegate/rolegate/server/http/RequestReader$Stage"), .int, (.object "com/example/rolegate/rolegate/server/http/RequestReader$Head"), (.object "java/io/ByteArrayOutputStream"), .long, .int, .boolean]
  staticTypes := #[.int, (.object "java/lang/String"), (.array .byte), (.array .byte)]
  resolved := Array.replicate 332 none
  statics := some 0 }

def pool3 : Array CpInfo := pool [(1, .class_ 2), (0, u "java/lang/constant/Constable"), (0, .class_ 4), (0, u "java/lang/Object")] 6

/-- java/lang/constant/Constable -/
def k3 : Class := { plain "java/lang/constant/Constable" (some 0) with
  accessFlags := 1537
  interfaces := #[]
  cf := some (fileOf pool3 1 #[] #[] 1537 3 #[] #[])
  fields := #[]
  methods := #[]
  instanceTypes := #[]
  staticTypes := #[]
  resolved := Array.replicate 11 none
  statics := none }

def pool4 : Array CpInfo := pool [(1, .class_ 2), (0, u "java/lang/Comparable"), (0, .class_ 4), (0, u "java/lang/Object")] 7

/-- java/lang/Comparable -/
def k4 : Class := { plain "java/lang/Comparable" (some 0) with
  accessFlags := 1537
  interfaces := #[]
  cf := some (fileOf pool4 1 #[] #[] 1537 3 #[] #[])
  fields := #[]
  methods := #[]
  instanceTypes := #[]
  staticTypes := #[]
  resolved := Array.replicate 12 none
  statics := none }

def pool5 : Array CpInfo := pool [(1, .class_ 2), (0, u "java/io/Serializable"), (0, .class_ 4), (0, u "java/lang/Object")] 2

/-- java/io/Serializable -/
def k5 : Class := { plain "java/io/Serializable" (some 0) with
  accessFlags := 1537
  interfaces := #[]
  cf := some (fileOf pool5 1 #[] #[] 1537 3 #[] #[])
  fields := #[]
  methods := #[]
  instanceTypes := #[]
  staticTypes := #[]
  resolved := Array.replicate 7 none
  statics := none }

def pool6 : Array CpInfo := pool [(2, .class_ 4), (1, u "java/lang/Enum"), (0, u "name"), (0, u "Ljava/lang/String;"), (0, .fieldref 2 8), (0, .nameAndType 9 10), (0, u "ordinal"), (0, u "I"), (1, .class_ 14), (1, u "java/lang/Object"), (4, u "hash"), (86, .class_ 108), (1, u "java/lang/Enum$EnumDesc"), (2, .class_ 112), (0, u "java/lang/constant/Constable"), (0, .class_ 114), (0, u "java/lang/Comparable"), (0, .class_ 116), (0, u "java/io/Serializable"), (9, u "()I")] 77

def k6c0 : Code := { maxStack := 1, maxLocals := 1, code := jdk_37_method_2_code, exceptionTable := #[], attributes := #[] }
def k6m0 : Method := { name := "ordinal", desc := "()I", sig := { parameters := [], returnType := some .int }, accessFlags := 17, code := some k6c0 }
/-- java/lang/Enum -/
def k6 : Class := { plain "java/lang/Enum" (some 0) with
  accessFlags := 1057
  interfaces := #[3, 4, 5]
  cf := some (fileOf pool6 2 #[.nestMembers #[106]] #[{ accessFlags := 17, nameIndex := 9, descriptorIndex := 126, attributes := #[] }] 1057 12 #[111, 113, 115] #[{ accessFlags := 18, nameIndex := 5, descriptorIndex := 6, attributes := #[] }, { accessFlags := 18, nameIndex := 9, descriptorIndex := 10, attributes := #[] }, { accessFlags := 2, nameIndex := 19, descriptorIndex := 10, attributes := #[] }])
  fields := #[{ name := "name", type := (.object "java/lang/String"), accessFlags := 18, slot := 0, constantValue := 0 }, { name := "ordinal", type := .int, accessFlags := 18, slot := 1, constantValue := 0 }, { name := "hash", type := .int, accessFlags := 2, slot := 2, constantValue := 0 }]
  methods := #[k6m0]
  instanceTypes := #[(.object "java/lang/String"), .int, .int]
  staticTypes := #[]
  resolved := Array.replicate 204 none
  statics := none }

def pool7 : Array CpInfo := pool [(1, .class_ 2), (0, u "com/example/rolegate/rolegate/server/http/RequestReader$Stage"), (2, u "HEAD"), (0, u "Lcom/example/rolegate/rolegate/server/http/RequestReader$Stage;"), (2, u "LENGTH"), (2, u "CHUNK_SIZE"), (2, u "CHUNK_DATA"), (2, u "CHUNK_END"), (2, u "TRAILER"), (2, u "DONE"), (2, u "$VALUES"), (0, u "[Lcom/example/rolegate/rolegate/server/http/RequestReader$Stage;"), (6, .class_ 37), (1, u "java/lang/Enum"), (30, .class_ 69), (0, u "com/example/rolegate/rolegate/server/http/RequestReader")] 2

/-- com/example/rolegate/rolegate/server/http/RequestReader$Stage -/
def k7 : Class := { plain "com/example/rolegate/rolegate/server/http/RequestReader$Stage" (some 6) with
  accessFlags := 16432
  interfaces := #[]
  cf := some (fileOf pool7 1 #[.nestHost 68] #[] 16432 35 #[] #[{ accessFlags := 16409, nameIndex := 5, descriptorIndex := 6, attributes := #[] }, { accessFlags := 16409, nameIndex := 9, descriptorIndex := 6, attributes := #[] }, { accessFlags := 16409, nameIndex := 12, descriptorIndex := 6, attributes := #[] }, { accessFlags := 16409, nameIndex := 15, descriptorIndex := 6, attributes := #[] }, { accessFlags := 16409, nameIndex := 18, descriptorIndex := 6, attributes := #[] }, { accessFlags := 16409, nameIndex := 21, descriptorIndex := 6, attributes := #[] }, { accessFlags := 16409, nameIndex := 24, descriptorIndex := 6, attributes := #[] }, { accessFlags := 4122, nameIndex := 27, descriptorIndex := 28, attributes := #[] }])
  fields := #[{ name := "HEAD", type := (.object "com/example/rolegate/rolegate/server/http/RequestReader$Stage"), accessFlags := 16409, slot := 0, constantValue := 0 }, { name := "LENGTH", type := (.object "com/example/rolegate/rolegate/server/http/RequestReader$Stage"), accessFlags := 16409, slot := 1, constantValue := 0 }, { name := "CHUNK_SIZE", type := (.object "com/example/rolegate/rolegate/server/http/RequestReader$Stage"), accessFlags := 16409, slot := 2, constantValue := 0 }, { name := "CHUNK_DATA", type := (.object "com/example/rolegate/rolegate/server/http/RequestReader$Stage"), accessFlags := 16409, slot := 3, constantValue := 0 }, { name := "CHUNK_END", type := (.object "com/example/rolegate/rolegate/server/http/RequestReader$Stage"), accessFlags := 16409, slot := 4, constantValue := 0 }, { name := "TRAILER", type := (.object "com/example/rolegate/rolegate/server/http/RequestReader$Stage"), accessFlags := 16409, slot := 5, constantValue := 0 }, { name := "DONE", type := (.object "com/example/rolegate/rolegate/server/http/RequestReader$Stage"), accessFlags := 16409, slot := 6, constantValue := 0 }, { name := "$VALUES", type := (.array (.object "com/example/rolegate/rolegate/server/http/RequestReader$Stage")), accessFlags := 4122, slot := 7, constantValue := 0 }]
  methods := #[]
  instanceTypes := #[(.object "java/lang/String"), .int, .int]
  staticTypes := #[(.object "com/example/rolegate/rolegate/server/http/RequestReader$Stage"), (.object "com/example/rolegate/rolegate/server/http/RequestReader$Stage"), (.object "com/example/rolegate/rolegate/server/http/RequestReader$Stage"), (.object "com/example/rolegate/rolegate/server/http/RequestReader$Stage"), (.object "com/example/rolegate/rolegate/server/http/RequestReader$Stage"), (.object "com/example/rolegate/rolegate/server/http/RequestReader$Stage"), (.object "com/example/rolegate/rolegate/server/http/RequestReader$Stage"), (.array (.object "com/example/rolegate/rolegate/server/http/RequestReader$Stage"))]
  resolved := Array.replicate 72 none
  statics := some 1 }

def pool8 : Array CpInfo := pool [(1, .class_ 2), (0, u "java/lang/Math"), (1, .class_ 6), (1, u "java/lang/Object"), (0, u "<init>"), (0, u "()V"), (89, .class_ 100), (1, u "java/lang/Math$RandomNumberGeneratorHolder"), (71, u "negativeZeroFloatBits"), (0, u "J"), (2, u "negativeZeroDoubleBits"), (21, u "max"), (46, u "$assertionsDisabled"), (0, u "Z"), (88, u "(II)I"), (2, u "twoToTheDoubleScaleDown"), (0, u "D"), (4, u "twoToTheDoubleScaleUp"), (9, u "E"), (3, u "PI"), (2, u "TAU"), (2, u "DEGREES_TO_RADIANS"), (0, u "RADIANS_TO_DEGREES")] 94

def k8m0 : Method := { name := "<init>", desc := "()V", sig := { parameters := [], returnType := none }, accessFlags := 2, code := none }
def k8c1 : Code := { maxStack := 2, maxLocals := 2, code := jdk_29_method_65_code, exceptionTable := #[], attributes := #[] }
def k8m1 : Method := { name := "max", desc := "(II)I", sig := { parameters := [.int, .int], returnType := some .int }, accessFlags := 9, code := some k8c1 }
/-- java/lang/Math -/
def k8 : Class := { plain "java/lang/Math" (some 0) with
  accessFlags := 49
  interfaces := #[]
  cf := some (fileOf pool8 1 #[.nestMembers #[98]] #[{ accessFlags := 2, nameIndex := 7, descriptorIndex := 8, attributes := #[] }, { accessFlags := 9, nameIndex := 198, descriptorIndex := 335, attributes := #[] }] 49 4 #[] #[{ accessFlags := 25, nameIndex := 354, descriptorIndex := 339, attributes := #[] }, { accessFlags := 25, nameIndex := 358, descriptorIndex := 339, attributes := #[] }, { accessFlags := 25, nameIndex := 361, descriptorIndex := 339, attributes := #[] }, { accessFlags := 26, nameIndex := 364, descriptorIndex := 339, attributes := #[] }, { accessFlags := 26, nameIndex := 365, descriptorIndex := 339, attributes := #[] }, { accessFlags := 26, nameIndex := 172, descriptorIndex := 173, attributes := #[] }, { accessFlags := 26, nameIndex := 176, descriptorIndex := 173, attributes := #[] }, { accessFlags := 8, nameIndex := 344, descriptorIndex := 339, attributes := #[] }, { accessFlags := 8, nameIndex := 338, descriptorIndex := 339, attributes := #[] }, { accessFlags := 4120, nameIndex := 245, descriptorIndex := 246, attributes := #[] }])
  fields := #[{ name := "E", type := .double, accessFlags := 25, slot := 0, constantValue := 0 }, { name := "PI", type := .double, accessFlags := 25, slot := 1, constantValue := 0 }, { name := "TAU", type := .double, accessFlags := 25, slot := 2, constantValue := 0 }, { name := "DEGREES_TO_RADIANS", type := .double, accessFlags := 26, slot := 3, constantValue := 0 }, { name := "RADIANS_TO_DEGREES", type := .double, accessFlags := 26, slot := 4, constantValue := 0 }, { name := "negativeZeroFloatBits", type := .long, accessFlags := 26, slot := 5, constantValue := 0 }, { name := "negativeZeroDoubleBits", type := .long, accessFlags := 26, slot := 6, constantValue := 0 }, { name := "twoToTheDoubleScaleUp", type := .double, accessFlags := 8, slot := 7, constantValue := 0 }, { name := "twoToTheDoubleScaleDown", type := .double, accessFlags := 8, slot := 8, constantValue := 0 }, { name := "$assertionsDisabled", type := .boolean, accessFlags := 4120, slot := 9, constantValue := 0 }]
  methods := #[k8m0, k8m1]
  instanceTypes := #[]
  staticTypes := #[.double, .double, .double, .double, .double, .long, .long, .double, .double, .boolean]
  resolved := Array.replicate 460 none
  statics := none }

def pool9 : Array CpInfo := pool [(1, u "java/lang/Cloneable"), (0, .class_ 1), (0, u "java/lang/Object"), (0, .class_ 3)] 3

/-- java/lang/Cloneable -/
def k9 : Class := { plain "java/lang/Cloneable" (some 0) with
  accessFlags := 1537
  interfaces := #[]
  cf := some (fileOf pool9 2 #[] #[] 1537 4 #[] #[])
  fields := #[]
  methods := #[]
  instanceTypes := #[]
  staticTypes := #[]
  resolved := Array.replicate 8 none
  statics := none }

/-- the primitive byte -/
def k10 : Class := { plain "byte" none with kind := .primitive 'B', accessFlags := 0x411 }
/-- [B -/
def k11 : Class := { plain "[B" (some 0) with kind := .array 10 .byte, interfaces := #[9, 5], accessFlags := 1041 }

/-- the primitive int -/
def k12 : Class := { plain "int" none with kind := .primitive 'I', accessFlags := 0x411 }
/-- [I -/
def k13 : Class := { plain "[I" (some 0) with kind := .array 12 .int, interfaces := #[9, 5], accessFlags := 1041 }

def heap : Heap := #[{ cls := 2, slots := #[.int 0, .null, .null, .ref 4], vm := .statics 2 },
  { cls := 7, slots := #[.ref 2, .null, .null, .null, .null, .null, .ref 3, .null], vm := .statics 7 },
  { cls := 7, slots := #[.null, .int 0, .int 0], vm := .none },
  { cls := 7, slots := #[.null, .int 6, .int 0], vm := .none },
  { cls := 11, slots := #[.int 13, .int 10, .int 13, .int 10], vm := .none }]
def classes : Array Class := #[k0, k1, k2, k3, k4, k5, k6, k7, k8, k9, k10, k11, k12, k13]
def interned : List (Array UInt16 × Addr) := []
def slotsUsed : Nat := 22
def theMethod : MethodId := ⟨1, 1⟩
def args0 : Array Value := #[.int 5, .int 7]
def aboutOver (below : List Frame) : State where
  vm := { classes := classes, interned := interned.toArray }
  heap := heap
  slotsUsed := slotsUsed
  threads := #[{ frames := .invoking theMethod args0 :: below }]
def below0 : List Frame := [.native { method := ⟨0, 0⟩, args := #[] }]
def about1 : State := aboutOver below0
def p0 : Program := .bare "" "" ""
def e0 : Env := launch0.env 0 0 0
theorem w_frames : about1.frames = Frame.invoking theMethod args0 :: below0 := rfl
set_option maxRecDepth 65536 in
theorem w_args : argsFit about1.vm theMethod args0 = true := by decide +kernel
set_option maxRecDepth 65536 in
theorem w_heap : heapFits about1 = true := by decide +kernel
set_option maxRecDepth 65536 in
theorem w_runnable : about1.curStatus? = some .runnable := by decide +kernel
set_option maxRecDepth 65536 in
theorem w_alone : about1.alone = true := by decide +kernel
set_option maxRecDepth 65536 in
theorem w_named : about1.methodNamed? x = some theMethod := by decide +kernel
set_option maxRecDepth 65536 in
theorem w_hears : about1.hears theMethod below0 = true := by decide +kernel
set_option maxRecDepth 65536 in
theorem w_ripe : about1.ripe theMethod args0 below0 = true := by decide +kernel
theorem w_running : about1.status = .running := rfl
set_option maxRecDepth 65536 in
theorem w_room : about1.hasRoom e0.platform room_1 = true :=
  launch0.hasRoom_least _ room_1 (by decide +kernel) (by decide +kernel) (by decide +kernel) (by decide +kernel) (by decide +kernel) (by decide +kernel)
theorem allAtoms_all (ts : List Jvm.Cond) (a : Array Jvm.Value) (st : Jvm.State) : (allAtoms ts).before a st = ts.all (fun c => c.before a st) := by
  induction ts with
  | nil => rfl
  | cons c t ih =>
    show (Jvm.Cond.and c (allAtoms t)).before a st = _
    rw [Jvm.Cond.before_and, ih, List.all_cons]
def words1 : List Jvm.Cond := Jvm.Cond.code x code maxLocals ret :: tables_1
/-- a 'code' word, met by the world's own term for the bytes: nothing is compared byte by byte -/
theorem code_word {y : MethodName} {bytes : ByteArray} {mx : Nat} {rt : Option FieldType} {a : Array Value} {s : State} {m : MethodId} {meth : Method} {c : Code} (h1 : s.methodNamed? y = some m) (h2 : s.vm.method? m = some meth) (h3 : meth.code = some c) (h4 : c.code = bytes)
    (h5 : (c.maxLocals == mx && c.exceptionTable.isEmpty && decide (c.maxStack ≤ mostOperands) && decide (meth.sig.returnType = rt) && !meth.locks && decide (parseMethodDescriptor y.desc = some meth.sig)) = true) : (Jvm.Cond.code y bytes mx rt).before a s = true := by
  simp only [Bool.and_eq_true, beq_iff_eq, Bool.not_eq_true', decide_eq_true_eq] at h5
  obtain ⟨⟨⟨⟨⟨g1, g2⟩, g3⟩, g4⟩, g5⟩, g6⟩ := h5
  simp [Cond.before, Cond.holds, Cond.value, h1, h2, h3, h4, g1, g2, g3, g4, g5, g6]
def isCode : Jvm.Cond → Bool
  | .code _ _ _ _ => true
  | _ => false
theorem all_split {L : List Jvm.Cond} {P : Jvm.Cond → Bool} (h1 : L.all (fun c => isCode c || P c) = true) (h2 : ∀ c ∈ L.filter isCode, P c = true) : L.all P = true := by
  refine List.all_eq_true.mpr fun c hc => ?_
  have h := List.all_eq_true.mp h1 c hc
  rcases Bool.eq_false_or_eq_true (isCode c) with hi | hi
  · exact h2 c (List.mem_filter.mpr ⟨hc, hi⟩)
  · simpa [hi] using h
set_option maxRecDepth 65536 in
theorem w_c0 : (Jvm.Cond.code x code maxLocals ret).before args0 about1 = true := code_word (m := ⟨1, 1⟩) (meth := k1m1) (c := k1c1) (by decide +kernel) rfl rfl rfl (by decide +kernel)
set_option maxRecDepth 65536 in
theorem w_c1 : (Jvm.Cond.code ({ cls := "com/example/rolegate/rolegate/server/http/RequestReader", name := "<init>", desc := "(II)V" } : Jvm.MethodName) prog_14_method_1_code (3 : Nat) (Option.none : Option Jvm.ClassFile.FieldType)).before args0 about1 = true := code_word (m := ⟨2, 0⟩) (meth := k2m0) (c := k2c0) (by decide +kernel) rfl rfl rfl (by decide +kernel)
set_option maxRecDepth 65536 in
theorem w_c2 : (Jvm.Cond.code ({ cls := "java/lang/Object", name := "<init>", desc := "()V" } : Jvm.MethodName) object_method_1_code (1 : Nat) (Option.none : Option Jvm.ClassFile.FieldType)).before args0 about1 = true := code_word (m := ⟨0, 0⟩) (meth := k0m0) (c := k0c0) (by decide +kernel) rfl rfl rfl (by decide +kernel)
set_option maxRecDepth 65536 in
theorem w_c3 : (Jvm.Cond.code ({ cls := "com/example/rolegate/rolegate/server/http/RequestReader", name := "takeContinue", desc := "()Z" } : Jvm.MethodName) prog_14_method_5_code (2 : Nat) (Option.some Jvm.ClassFile.FieldType.boolean)).before args0 about1 = true := code_word (m := ⟨2, 3⟩) (meth := k2m3) (c := k2c3) (by decide +kernel) rfl rfl rfl (by decide +kernel)
set_option maxRecDepth 65536 in
theorem w_c4 : (Jvm.Cond.code ({ cls := "com/example/rolegate/rolegate/server/http/RequestReader", name := "next", desc := "()Lcom/example/rolegate/rolegate/server/http/RequestReader$Incoming;" } : Jvm.MethodName) prog_14_method_4_code (3 : Nat) (Option.some (Jvm.ClassFile.FieldType.object "com/example/rolegate/rolegate/server/http/RequestReader$Incoming"))).before args0 about1 = true := code_word (m := ⟨2, 2⟩) (meth := k2m2) (c := k2c2) (by decide +kernel) rfl rfl rfl (by decide +kernel)
set_option maxRecDepth 65536 in
theorem w_c5 : (Jvm.Cond.code ({ cls := "java/lang/Enum", name := "ordinal", desc := "()I" } : Jvm.MethodName) jdk_37_method_2_code (1 : Nat) (Option.some Jvm.ClassFile.FieldType.int)).before args0 about1 = true := code_word (m := ⟨6, 0⟩) (meth := k6m0) (c := k6c0) (by decide +kernel) rfl rfl rfl (by decide +kernel)
set_option maxRecDepth 65536 in
theorem w_c6 : (Jvm.Cond.code ({ cls := "com/example/rolegate/rolegate/server/http/RequestReader", name := "readHead", desc := "()Z" } : Jvm.MethodName) prog_14_method_6_code (2 : Nat) (Option.some Jvm.ClassFile.FieldType.boolean)).before args0 about1 = true := code_word (m := ⟨2, 4⟩) (meth := k2m4) (c := k2c4) (by decide +kernel) rfl rfl rfl (by decide +kernel)
set_option maxRecDepth 65536 in
theorem w_c7 : (Jvm.Cond.code ({ cls := "java/lang/Math", name := "max", desc := "(II)I" } : Jvm.MethodName) jdk_29_method_65_code (2 : Nat) (Option.some Jvm.ClassFile.FieldType.int)).before args0 about1 = true := code_word (m := ⟨8, 1⟩) (meth := k8m1) (c := k8c1) (by decide +kernel) rfl rfl rfl (by decide +kernel)
set_option maxRecDepth 65536 in
theorem w_c8 : (Jvm.Cond.code ({ cls := "com/example/rolegate/rolegate/server/http/RequestReader", name := "indexOf", desc := "([BII)I" } : Jvm.MethodName) prog_14_method_13_code (6 : Nat) (Option.some Jvm.ClassFile.FieldType.int)).before args0 about1 = true := code_word (m := ⟨2, 5⟩) (meth := k2m5) (c := k2c5) (by decide +kernel) rfl rfl rfl (by decide +kernel)
set_option maxRecDepth 65536 in
theorem w_c9 : (Jvm.Cond.code ({ cls := "com/example/rolegate/rolegate/server/http/RequestReader", name := "started", desc := "()Z" } : Jvm.MethodName) prog_14_method_3_code (1 : Nat) (Option.some Jvm.ClassFile.FieldType.boolean)).before args0 about1 = true := code_word (m := ⟨2, 1⟩) (meth := k2m1) (c := k2c1) (by decide +kernel) rfl rfl rfl (by decide +kernel)
def codes1 : List Jvm.Cond := [Jvm.Cond.code x code maxLocals ret, Jvm.Cond.code ({ cls := "com/example/rolegate/rolegate/server/http/RequestReader", name := "<init>", desc := "(II)V" } : Jvm.MethodName) prog_14_method_1_code (3 : Nat) (Option.none : Option Jvm.ClassFile.FieldType), Jvm.Cond.code ({ cls := "java/lang/Object", name := "<init>", desc := "()V" } : Jvm.MethodName) object_method_1_code (1 : Nat) (Option.none : Option Jvm.ClassFile.FieldType), Jvm.Cond.code ({ cls := "com/example/rolegate/rolegate/server/http/RequestReader", name := "takeContinue", desc := "()Z" } : Jvm.MethodName) prog_14_method_5_code (2 : Nat) (Option.some Jvm.ClassFile.FieldType.boolean), Jvm.Cond.code ({ cls := "com/example/rolegate/rolegate/server/http/RequestReader", name := "next", desc := "()Lcom/example/rolegate/rolegate/server/http/RequestReader$Incoming;" } : Jvm.MethodName) prog_14_method_4_code (3 : Nat) (Option.some (Jvm.ClassFile.FieldType.object "com/example/rolegate/rolegate/server/http/RequestReader$Incoming")), Jvm.Cond.code ({ cls := "java/lang/Enum", name := "ordinal", desc := "()I" } : Jvm.MethodName) jdk_37_method_2_code (1 : Nat) (Option.some Jvm.ClassFile.FieldType.int), Jvm.Cond.code ({ cls := "com/example/rolegate/rolegate/server/http/RequestReader", name := "readHead", desc := "()Z" } : Jvm.MethodName) prog_14_method_6_code (2 : Nat) (Option.some Jvm.ClassFile.FieldType.boolean), Jvm.Cond.code ({ cls := "java/lang/Math", name := "max", desc := "(II)I" } : Jvm.MethodName) jdk_29_method_65_code (2 : Nat) (Option.some Jvm.ClassFile.FieldType.int), Jvm.Cond.code ({ cls := "com/example/rolegate/rolegate/server/http/RequestReader", name := "indexOf", desc := "([BII)I" } : Jvm.MethodName) prog_14_method_13_code (6 : Nat) (Option.some Jvm.ClassFile.FieldType.int), Jvm.Cond.code ({ cls := "com/example/rolegate/rolegate/server/http/RequestReader", name := "started", desc := "()Z" } : Jvm.MethodName) prog_14_method_3_code (1 : Nat) (Option.some Jvm.ClassFile.FieldType.boolean)]
set_option maxRecDepth 65536 in
theorem codes_eq : words1.filter isCode = codes1 := rfl
theorem w_codes : ∀ c ∈ words1.filter isCode, c.before args0 about1 = true := by
  rw [codes_eq]
  intro c hc
  simp only [codes1, List.mem_cons, List.not_mem_nil, or_false] at hc
  rcases hc with rfl | rfl | rfl | rfl | rfl | rfl | rfl | rfl | rfl | rfl
  · exact w_c0
  · exact w_c1
  · exact w_c2
  · exact w_c3
  · exact w_c4
  · exact w_c5
  · exact w_c6
  · exact w_c7
  · exact w_c8
  · exact w_c9
set_option maxRecDepth 65536 in
theorem w_t1 : (words1.take 24).all (fun c => isCode c || c.before args0 about1) = true := by decide +kernel
set_option maxRecDepth 65536 in
theorem w_t2 : ((words1.drop 24).take 24).all (fun c => isCode c || c.before args0 about1) = true := by decide +kernel
set_option maxRecDepth 65536 in
theorem w_t3 : (((words1.drop 24).drop 24).take 24).all (fun c => isCode c || c.before args0 about1) = true := by decide +kernel
set_option maxRecDepth 65536 in
theorem w_t4 : (((words1.drop 24).drop 24).drop 24).all (fun c => isCode c || c.before args0 about1) = true := by decide +kernel
theorem w_tables : (allAtoms (Jvm.Cond.code x code maxLocals ret :: tables_1)).before args0 about1 = true := by
  rw [allAtoms_all]
  show words1.all (fun c => c.before args0 about1) = true
  refine all_split ?_ w_codes
  rw [← List.take_append_drop 24 words1, List.all_append, w_t1, ← List.take_append_drop 24 (words1.drop 24), List.all_append, w_t2, ← List.take_append_drop 24 ((words1.drop 24).drop 24), List.all_append, w_t3, w_t4]
  rfl
set_option maxRecDepth 65536 in
theorem w_case : (Jvm.Cond.and given_1 narrow_1).before args0 about1 = true := by decide +kernel
theorem w_applies : (headSpec (Jvm.Cond.code x code maxLocals ret :: tables_1) room_1).applies x e0.platform about1 = true :=
  (Spec.applies_iff w_frames).mpr ⟨w_running, w_runnable, w_alone, w_named, w_hears, w_ripe, w_room, w_tables⟩
theorem atStart : AtStart classFile x code maxLocals ret World_1 tables_1 room_1 Calls_1 rest_1 Pre_1 launch0 p0 e0 about1 theMethod args0 below0 :=
  ⟨lists_1, trivial, launch0.admits_env _ _ _, launch0.least_env, fairChoices_fair.cas, fairChoices_fair.clock, w_frames, w_args, w_heap, w_applies, trivial, trivial, w_case⟩
end start1
theorem witness_1 : WitnessClaimed_1 := ⟨start1.p0, start1.e0, start1.about1, start1.theMethod, start1.args0, start1.below0, start1.atStart⟩
end Jvm.Pilot.@@N@@
