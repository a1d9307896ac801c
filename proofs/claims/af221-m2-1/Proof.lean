import JvmDerived
import JvmDerived.Pilot.@@N@@Statement
import JvmDerived.Pilot.@@N@@Code
set_option linter.unusedVariables false
set_option linter.unusedSimpArgs false
namespace Jvm.RoadKit
open Sem ClassFile Op Lib Jvm.Stand Jvm.Free Jvm.LawKit
section New
variable {p : Program} {l : Launch} {e : Env} {R : Room} {s : State} {m : MethodId} {args : Array Value} {below : List Frame} {meth : Method} {c : Code} {T : State} {locs : List Loc} {cells slots : Nat}
theorem retI (X : Stand p l e R s m args below meth c T locs cells slots) (hx : p.tables.exec = Jvm.exec) {pc : Nat} {Ls : Array Slot} {z : Int32} {rest : List Value} (hret : meth.sig.returnType = some .int) (hd : decode c.code pc = .ok (.ireturn, 1)) {fs : List Frame}
    (hl : ∀ (f : JFrame) (acts : List Action), f.method = m → f.locked = none → f.entered = [] → (doReturn e (T.setTop f) acts (some (.int z))).1 = T.setFrames fs) : Steps p.tables e below (T.setTop (mkF m pc Ls (.int z :: rest))) (T.setFrames fs) := by
  have hm' : T.vm.method? m = some meth := X.method'
  have hn : narrow .int (.int z) = .int z := rfl
  show Steps p.tables e below (T.setTop { method := m, pc := pc, locals := Ls, stack := _ :: rest, locked := none }) _
  jvm_step X.here [X.here.top, hx, hd, hm', hret, hn]
  first | (intro acts; rw [hl _ acts rfl rfl rfl]) | rw [hl _ _ rfl rfl rfl]
  exact Steps.refl _
end New
end Jvm.RoadKit
namespace Jvm.Pilot.@@N@@
open Jvm Jvm.ClassFile Sem Op Lib Jvm.Free Jvm.Stand Jvm.LawKit Jvm.RoadKit Bundle Jvm.Pilot.@@N@@.Jvm.D
/-- the run from U comes to an end of which P holds -/
def Go (p : Program) (e : Env) (below : List Frame) (P : Outcome → State → Prop) (U : State) : Prop := ∃ s₂ o, Steps p.tables e below U s₂ ∧ s₂.status = .running ∧ Ended s₂ below o ∧ P o s₂
theorem Go.mk {p : Program} {e : Env} {below : List Frame} {P : Outcome → State → Prop} {U : State} (s₂ : State) (o : Outcome) (h1 : Steps p.tables e below U s₂) (h2 : s₂.status = .running) (h3 : Ended s₂ below o) (h4 : P o s₂) : Go p e below P U := ⟨s₂, o, h1, h2, h3, h4⟩
theorem Go.of {p : Program} {e : Env} {below : List Frame} {P : Outcome → State → Prop} {U V : State} (st : ∀ t, Steps p.tables e below V t → Steps p.tables e below U t) (h : Go p e below P V) : Go p e below P U := by
  obtain ⟨s₂, o, h1, h⟩ := h
  exact ⟨s₂, o, st _ h1, h⟩
theorem Go.tr {p : Program} {e : Env} {below : List Frame} {P : Outcome → State → Prop} {U V : State} (st : Steps p.tables e below U V) (h : Go p e below P V) : Go p e below P U := by
  obtain ⟨s₂, o, h1, h⟩ := h
  exact ⟨s₂, o, st.trans h1, h⟩
theorem own_sta {args : Array Value} {s : State} {C n d K : String} (h : (Jvm.Cond.exactly (Term.static C n d) K).value args s none s [] = some true) : ∃ a, (Term.static C n d).eval args s none [] s = some (.ref a) ∧ Exa s s.heap a K := by
  obtain ⟨a, ev⟩ := exa_v h
  exact ⟨a, ev, Exa.start ev h⟩
theorem own_fldI {args : Array Value} {s : State} {t : Term} {a : Addr} {C n d : String} {k : Int32} (ev : t.eval args s none [] s = some (.ref a)) (h : (Jvm.Cond.eq (.field t C n d) (.int k)).value args s none s [] = some true) : Fld s s.heap a C n d (.int k) := by
  obtain ⟨x, y, h1, h2, k1, -⟩ := cmp_v (Or.inl h)
  cases h2
  obtain ⟨z, rfl⟩ : ∃ z, x = .int z := by cases x <;> simp [Kin, Value.isRef] at k1 ⊢
  have e : z = k := gotT (Cond.eq_ints h1 rfl) h
  subst e
  rw [fld_at ev] at h1
  exact Fld.start h1
theorem own_fldR {args : Array Value} {s : State} {t t2 : Term} {a b : Addr} {C n d : String} (ev : t.eval args s none [] s = some (.ref a)) (ev2 : t2.eval args s none [] s = some (.ref b)) (h : (Jvm.Cond.eq (.field t C n d) t2).value args s none s [] = some true) : Fld s s.heap a C n d (.ref b) := by
  obtain ⟨x, y, h1, h2, k1, k2⟩ := cmp_v (Or.inl h)
  cases ev2.symm.trans h2
  have e : x = .ref b := by
    have q := gotT (eq_R h1 h2 (by cases x <;> simp [Kin, Value.isRef] at k1 ⊢) rfl) h
    exact q
  subst e
  rw [fld_at ev] at h1
  exact Fld.start h1
theorem own_Sta_keep {Z : State} {h h' : Heap} {C n d : String} {v : Value} {ws : List Addr} (F : Sta Z h C n d v) (K : Keep h h' ws) (q : ∀ x ∈ ws, ∀ cell : Cell, h[x]? = some cell → cell.vm.isStatics = false) : Sta Z h' C n d v := by
  obtain ⟨cf, i, k, f, st, cell, h1, h2, h3, h4, h5, h6, h7⟩ := F
  exact ⟨cf, i, k, f, st, cell, h1, h2, h3, h4, K.2.1 _ _ h5 (fun z => by have := q st z cell h5; rw [h6] at this; cases this), h6, h7⟩
theorem own_Ins_keep {Z : State} {h h' : Heap} {C : String} {a : Addr} {b : Bool} {ws : List Addr} (F : Ins Z h a C b) (K : Keep h h' ws) : Ins Z h' a C b := by
  obtain ⟨cell, cT, h1, h2, h3⟩ := F
  obtain ⟨c', q1, q2, q3, -⟩ := K.2.2 _ _ h1
  exact ⟨c', cT, q1, h2, by rw [q2, q3]; exact h3⟩
theorem own_p0 {h : Heap} : ∀ x ∈ ([] : List Addr), ∀ cell : Cell, h[x]? = some cell → cell.vm.isStatics = false := fun _ q => nomatch q
theorem own_pS {h : Heap} {y : Addr} {L : List Addr} (q : ∀ cell : Cell, h[y]? = some cell → cell.vm.isStatics = false) (r : ∀ x ∈ L, ∀ cell : Cell, h[x]? = some cell → cell.vm.isStatics = false) : ∀ x ∈ y :: L, ∀ cell : Cell, h[x]? = some cell → cell.vm.isStatics = false := fun x z => (List.mem_cons.mp z).elim (fun u => u ▸ q) (r x)
theorem own_plainE {Z : State} {h : Heap} {a : Addr} {C : String} (F : Exa Z h a C) : ∀ cell : Cell, h[a]? = some cell → cell.vm.isStatics = false := fun cell hc => by
  obtain ⟨c', k, h1, -, -, h4, -⟩ := F
  cases hc.symm.trans h1
  exact h4
theorem own_plainF {Z : State} {h : Heap} {a : Addr} {C n d : String} {v : Value} (F : Fld Z h a C n d v) : ∀ cell : Cell, h[a]? = some cell → cell.vm.isStatics = false := old_plain F
theorem own_plainV {Z : State} {h : Heap} {a : Addr} {k : ClassId} {ty : FieldType} {z : Int32} {vs : List Value} {dv : Value} (F : Arv Z h a k ty z vs dv) : ∀ cell : Cell, h[a]? = some cell → cell.vm.isStatics = false := fun cell hc => by
  obtain ⟨c', A, -⟩ := F
  cases hc.symm.trans A.1
  exact A.plain
theorem own_selpriv {args : Array Value} {s : State} {C : String} {y : MethodName} (h : (Jvm.Cond.selects C y y).before args s = true) (hp : s.PrivateAt y) (hi : (Jvm.Cond.instanceMethod y).before args s = true) (hy : y.cls ≠ "java/lang/invoke/MethodHandle" ∧ y.cls ≠ "java/lang/invoke/VarHandle") : (Jvm.Cond.selects y.cls y y).before args s = true := by
  obtain ⟨c, r, m, -, -, q3, -, k, q4, q5⟩ := Cond.selects_spec h
  exact selects_self_of_private (findClass_of_methodNamed q3) q4 q5 hp hi hy
theorem own_same {args : Array Value} {s : State} {C : String} {x y z : MethodName} (h : (Jvm.Cond.selects C x z).before args s = true) (hc : z.cls = y.cls) (hi : (Jvm.Cond.instanceMethod y).before args s = true) (hy : y.cls ≠ "java/lang/invoke/MethodHandle" ∧ y.cls ≠ "java/lang/invoke/VarHandle") : (Jvm.Cond.sameMethod y.cls y.cls y.name y.desc).before args s = true := by
  obtain ⟨c, r, m, -, -, q3, -, k, q4, q5⟩ := Cond.selects_spec h
  obtain ⟨mk, methM, hnamed, -, -, -⟩ := Cond.instanceMethod_spec hi
  have hfound : s.methodFound? y.cls y.name y.desc = some mk := State.methodFound?_of_named hnamed hy
  have e1 := findClass_of_methodNamed hnamed
  have e2 := findClass_of_methodNamed q3
  rw [hc] at e2
  have e3 : m.cls = mk.cls := Option.some.inj (e2.symm.trans e1)
  rw [e3] at q4
  have hn' : s.methodNamed? ⟨y.cls, y.name, y.desc⟩ = some mk := hnamed
  simp [Cond.before, Cond.holds, Cond.value, e1, hfound, hn', q4, q5]
theorem own_nf {args : Array Value} {s : State} {C : String} {x y z : MethodName} (h : (Jvm.Cond.selects C x z).before args s = true) (hc : z.cls = y.cls) : NotFace s y := fun r0 h0 => by
  obtain ⟨c, r, m, -, -, q3, -, k, q4, q5⟩ := Cond.selects_spec h
  have e1 := findClass_of_methodNamed h0
  have e2 := findClass_of_methodNamed q3
  rw [hc] at e2
  have e3 : m.cls = r0.cls := Option.some.inj (e2.symm.trans e1)
  rw [e3] at q4
  exact ⟨k, q4, q5⟩
theorem d2_0 : decode jdk_37_method_2_code 0 = .ok (.aload_n 0, 1) := by decide +kernel
theorem d2_1 : decode jdk_37_method_2_code 1 = .ok (.getfield 7, 3) := by decide +kernel
theorem d2_4 : decode jdk_37_method_2_code 4 = .ok (.ireturn, 1) := by decide +kernel
theorem pn_java_lang_Enum : plainName "java/lang/Enum" = true := by first | (simp [plainName, overriddenIn]; done) | decide +kernel
theorem ef_2 (m : MethodId) (x0 : Addr) : entryFrame m #[(.ref x0)] 1 = mkF m 0 #[.val (.ref x0)] [] := by first | (simp [entryFrame, mkF, argsToLocals, Value.category]; done) | rfl
def Q2 (Z : State) (o0 : Addr) (f_o0_ordinal : Int32) (h0 : Heap) (n0 : Nat) (v : Option Value) (h : Heap) (L : List Loc) : Prop := v = some (.int f_o0_ordinal) ∧ Fr n0 L ∧ h = h0
set_option maxRecDepth 65536 in
set_option maxHeartbeats 40000000 in
theorem rm2 (l : Launch) (Z : State) (a0 : Array Value) (hw : ∀ d ∈ tables_1, d.before a0 Z = true) (ws : List Jvm.Cond) (o0 : Addr) (f_o0_ordinal : Int32) (h0 : Heap) (n0 : Nat) (Z0 : n0 ≤ h0.size) (F_o0_ordinal : Fld Z h0 o0 "java/lang/Enum" "ordinal" "I" (.int f_o0_ordinal)) :
    MetFree l (⟨"java/lang/Enum", "ordinal", "()I"⟩ : MethodName) (head1 (Jvm.Cond.code (⟨"java/lang/Enum", "ordinal", "()I"⟩ : MethodName) jdk_37_method_2_code 1 (some .int) :: ws) ({ frames := 0, cells := 0, slots := 0, locals := 0 } : Room)) (fun a U => a = #[(.ref o0)] ∧ Z.Warmed39 U.vm ∧ U.heap = h0) (fun _ _ _ _ _ => True) (fun _ U o U' => ∃ v L, o = .returned v ∧ Q2 Z o0 f_o0_ordinal h0 n0 v U'.heap L ∧ FrameEnd U o U' L ({ frames := 0, cells := 0, slots := 0, locals := 0 } : Room).cells ({ frames := 0, cells := 0, slots := 0, locals := 0 } : Room).slots) := by
  refine MetFree.of_bodySF (plainFor_of_name pn_java_lang_Enum) hisR ?_
  intro p e s m args below meth c s₁ Bd hml0 hP hK
  obtain ⟨rfl, hZ, hh⟩ := hP
  have hx := Bd.exec
  have hby := Bd.bytes
  have hml : c.maxLocals = 1 := hml0
  have hown : s.vm.findClass "java/lang/Enum" = some m.cls := findClass_of_methodNamed Bd.named
  have hnm := (name_of_methodNamed Bd.named Bd.method).1
  have X0 : Stand p l e ({ frames := 0, cells := 0, slots := 0, locals := 0 } : Room) s m #[(.ref o0)] below meth c s₁ [] 0 0 := Stand.of_body Bd
  have e0 : s₁.heap = h0 := by rw [← hh, Bd.state]; rfl
  have N0 := Fr.nil n0
  show Go p e below (fun o U' => ∃ v L, o = .returned v ∧ Q2 Z o0 f_o0_ordinal h0 n0 v U'.heap L ∧ FrameEnd s o U' L ({ frames := 0, cells := 0, slots := 0, locals := 0 } : Room).cells ({ frames := 0, cells := 0, slots := 0, locals := 0 } : Room).slots) (s₁.setTop (entryFrame m #[(.ref o0)] 1))
  refine Go.of (fun _ k => castTop (ef_2 m o0) k) ?_
  show Go p e below _ (s₁.setTop (mkF m 0 #[.val (.ref o0)] []))
  refine Go.of (fun _ k => XS.aloadN X0.here hx rfl (hb hby d2_0) rfl rfl k) ?_
  show Go p e below _ (s₁.setTop (mkF m 1 #[.val (.ref o0)] [(.ref o0)]))
  obtain ⟨T1, X1, e1, st1⟩ := getF X0 hx hZ hown (host := "") (Or.inl (hw _ (List.mem_of_getElem? (i := 20) rfl))) Via.refl e0 F_o0_ordinal (g := (mkF m 1 #[.val (.ref o0)] [(.ref o0)])) rfl rfl (hb hby d2_1)
  refine Go.of st1 ?_
  show Go p e below _ (T1.setTop (mkF m 4 #[.val (.ref o0)] [(.int f_o0_ordinal)]))
  obtain ⟨fs, hr, hrun, hended, hW, hsame⟩ := X1.leave (v := some (.int f_o0_ordinal)) (fun h => by rw [Bd.returns] at h; cases h)
  refine Go.mk _ _ ?_ hrun hended ⟨_, _, rfl, ?_, ⟨_, rfl⟩, hW, hsame.mono (by decide) (by decide)⟩
  · exact retI X1 hx Bd.returns (hb hby d2_4) hr
  · show Q2 Z o0 f_o0_ordinal h0 n0 _ T1.heap _
    rw [e1]
    exact ⟨rfl, N0, rfl⟩
theorem d1_0 : decode prog_87_method_4_code 0 = .ok (.getstatic 44, 3) := by decide +kernel
theorem d1_3 : decode prog_87_method_4_code 3 = .ok (.aload_n 0, 1) := by decide +kernel
theorem d1_4 : decode prog_87_method_4_code 4 = .ok (.invokevirtual 50, 3) := by decide +kernel
theorem pd_0 : parseMethodDescriptor "()I" = some ⟨[], some .int⟩ := by decide +kernel
theorem d1_7 : decode prog_87_method_4_code 7 = .ok (.iaload, 1) := by decide +kernel
theorem d1_8 : decode prog_87_method_4_code 8 = .ok (.tableswitch 44 1 7 #[54, 54, 60, 66, 72, 78, 84], 44) := by decide +kernel
theorem d1_62 : decode prog_87_method_4_code 62 = .ok (.getstatic 19, 3) := by decide +kernel
theorem d1_65 : decode prog_87_method_4_code 65 = .ok (.goto 30, 3) := by decide +kernel
theorem d1_95 : decode prog_87_method_4_code 95 = .ok (.areturn, 1) := by decide +kernel
theorem pn_com_example_vestry_vestry_plan_TerminationCategory : plainName "com/example/vestry/vestry/plan/TerminationCategory" = true := by first | (simp [plainName, overriddenIn]; done) | decide +kernel
theorem ef_1 (m : MethodId) (x0 : Addr) : entryFrame m #[(.ref x0)] 1 = mkF m 0 #[.val (.ref x0)] [] := by first | (simp [entryFrame, mkF, argsToLocals, Value.category]; done) | rfl
def Q1_0 (Z : State) (o0 : Addr) (w__SwitchMap_com_example_vestry_vestry_ledger_TerminationReason : Addr) (kSM : ClassId) (w_VOLUNTARY : Addr) (h0 : Heap) (n0 : Nat) (v : Option Value) (h : Heap) (L : List Loc) : Prop := v = some (.ref w_VOLUNTARY) ∧ Fr n0 L ∧ h = h0
set_option maxRecDepth 65536 in
set_option maxHeartbeats 40000000 in
theorem rm1_0 (l : Launch) (Z : State) (a0 : Array Value) (hw : ∀ d ∈ tables_1, d.before a0 Z = true) (ws : List Jvm.Cond) (o0 : Addr) (w__SwitchMap_com_example_vestry_vestry_ledger_TerminationReason : Addr) (kSM : ClassId) (w_VOLUNTARY : Addr) (h0 : Heap) (n0 : Nat) (Z0 : n0 ≤ h0.size) (S__SwitchMap_com_example_vestry_vestry_ledger_TerminationReason : Sta Z h0 "com/example/vestry/vestry/plan/TerminationCategory$1" "$SwitchMap$com$example$vestry$vestry$ledger$TerminationReason" "[I" (.ref w__SwitchMap_com_example_vestry_vestry_ledger_TerminationReason)) (F_o0_ordinal : Fld Z h0 o0 "java/lang/Enum" "ordinal" "I" (.int (0 : Int32))) (E_o0 : Exa Z h0 o0 "com/example/vestry/vestry/ledger/TerminationReason") (V_w__SwitchMap_com_example_vestry_vestry_ledger_TerminationReason : Arv Z h0 w__SwitchMap_com_example_vestry_vestry_ledger_TerminationReason kSM .int (7 : Int32) [(.int (1 : Int32)), (.int (3 : Int32)), (.int (2 : Int32)), (.int (4 : Int32)), (.int (5 : Int32)), (.int (6 : Int32)), (.int (7 : Int32))] (.int (0 : Int32))) (S_VOLUNTARY : Sta Z h0 "com/example/vestry/vestry/plan/TerminationCategory" "VOLUNTARY" "Lcom/example/vestry/vestry/plan/TerminationCategory;" (.ref w_VOLUNTARY)) :
    MetFree l (⟨"com/example/vestry/vestry/plan/TerminationCategory", "named", "(Lcom/example/vestry/vestry/ledger/TerminationReason;)Lcom/example/vestry/vestry/plan/TerminationCategory;"⟩ : MethodName) (head1 (Jvm.Cond.code (⟨"com/example/vestry/vestry/plan/TerminationCategory", "named", "(Lcom/example/vestry/vestry/ledger/TerminationReason;)Lcom/example/vestry/vestry/plan/TerminationCategory;"⟩ : MethodName) prog_87_method_4_code 1 (some (.object "com/example/vestry/vestry/plan/TerminationCategory")) :: ws) ({ frames := 1, cells := 0, slots := 0, locals := 13 } : Room)) (fun a U => a = #[(.ref o0)] ∧ Z.Warmed39 U.vm ∧ U.heap = h0) (fun _ _ _ _ _ => True) (fun _ U o U' => ∃ v L, o = .returned v ∧ Q1_0 Z o0 w__SwitchMap_com_example_vestry_vestry_ledger_TerminationReason kSM w_VOLUNTARY h0 n0 v U'.heap L ∧ FrameEnd U o U' L ({ frames := 1, cells := 0, slots := 0, locals := 13 } : Room).cells ({ frames := 1, cells := 0, slots := 0, locals := 13 } : Room).slots) := by
  refine MetFree.of_bodySF (plainFor_of_name pn_com_example_vestry_vestry_plan_TerminationCategory) hisR ?_
  intro p e s m args below meth c s₁ Bd hml0 hP hK
  obtain ⟨rfl, hZ, hh⟩ := hP
  have hx := Bd.exec
  have hby := Bd.bytes
  have hml : c.maxLocals = 1 := hml0
  have hown : s.vm.findClass "com/example/vestry/vestry/plan/TerminationCategory" = some m.cls := findClass_of_methodNamed Bd.named
  have hnm := (name_of_methodNamed Bd.named Bd.method).1
  have X0 : Stand p l e ({ frames := 1, cells := 0, slots := 0, locals := 13 } : Room) s m #[(.ref o0)] below meth c s₁ [] 0 0 := Stand.of_body Bd
  have e0 : s₁.heap = h0 := by rw [← hh, Bd.state]; rfl
  have N0 := Fr.nil n0
  show Go p e below (fun o U' => ∃ v L, o = .returned v ∧ Q1_0 Z o0 w__SwitchMap_com_example_vestry_vestry_ledger_TerminationReason kSM w_VOLUNTARY h0 n0 v U'.heap L ∧ FrameEnd s o U' L ({ frames := 1, cells := 0, slots := 0, locals := 13 } : Room).cells ({ frames := 1, cells := 0, slots := 0, locals := 13 } : Room).slots) (s₁.setTop (entryFrame m #[(.ref o0)] 1))
  refine Go.of (fun _ k => castTop (ef_1 m o0) k) ?_
  show Go p e below _ (s₁.setTop (mkF m 0 #[.val (.ref o0)] []))
  obtain ⟨T1, X1, e1, st1⟩ := getS2 X0 hx hZ hown (host := "") (Or.inl (hw _ (List.mem_of_getElem? (i := 10) rfl))) Via.refl e0 S__SwitchMap_com_example_vestry_vestry_ledger_TerminationReason (g := (mkF m 0 #[.val (.ref o0)] [])) rfl (hb hby d1_0)
  refine Go.of st1 ?_
  show Go p e below _ (T1.setTop (mkF m 3 #[.val (.ref o0)] [(.ref w__SwitchMap_com_example_vestry_vestry_ledger_TerminationReason)]))
  refine Go.of (fun _ k => XS.aloadN X1.here hx rfl (hb hby d1_3) rfl rfl k) ?_
  show Go p e below _ (T1.setTop (mkF m 4 #[.val (.ref o0)] [(.ref o0), (.ref w__SwitchMap_com_example_vestry_vestry_ledger_TerminationReason)]))
  obtain ⟨cq2, kq2, q2a, q2b, q2c⟩ := isOf hZ e1 E_o0
  obtain ⟨_, _, ⟨T2, L2, k2, n2⟩, -, X2, ⟨Lc2, hQ2, l2, y2, z2⟩, st2⟩ := X1.virtualBackUp hx (x := (⟨"com/example/vestry/vestry/ledger/TerminationReason", "ordinal", "()I"⟩ : MethodName)) (y := (⟨"java/lang/Enum", "ordinal", "()I"⟩ : MethodName)) (owner := "java/lang/Enum") hown (mvT hZ (hw _ (List.mem_of_getElem? (i := 13) rfl))) (mvT hZ (hw _ (List.mem_of_getElem? (i := 14) rfl))) (mvT hZ (hw _ (List.mem_of_getElem? (i := 15) rfl))) (by decide) (mvT hZ (hw _ (List.mem_of_getElem? (i := 17) rfl))) (mvT hZ (hw _ (List.mem_of_getElem? (i := 16) rfl))) (backOf (W := 1) (rm2 l Z a0 hw [] o0 (0 : Int32) h0 n0 Z0 F_o0_ordinal) hZ (hw _ (List.mem_of_getElem? (i := 19) rfl)) (hw _ (List.mem_of_getElem? (i := 18) rfl)) (by decide) (by decide)) q2a q2c (g := (mkF m 4 #[.val (.ref o0)] [(.ref o0), (.ref w__SwitchMap_com_example_vestry_vestry_ledger_TerminationReason)])) rfl (by rw [hml]; rfl) (Steps.refl _) (argsL := []) (rest := [(.ref w__SwitchMap_com_example_vestry_vestry_ledger_TerminationReason)]) (lenOf pd_0 rfl) rfl (by show 2 * 0 + _ ≤ _; exact Nat.le_of_eq rfl) (hb hby d1_4) (fun _ _ => ⟨rfl, e1, (by decide : 0 + 0 ≤ _), (by decide : 0 + 0 ≤ _)⟩)
  dsimp only [Pt.U, Pt.locs, Pt.cells, Pt.slots] at X2 l2 y2 z2 st2 hQ2
  subst l2 y2 z2
  obtain ⟨rfl, Nq2, q2_0⟩ := hQ2
  have N2 := Fr.app N0 Nq2
  refine Go.tr st2 ?_
  show Go p e below _ (T2.setTop (mkF m 7 #[.val (.ref o0)] [(.int (0 : Int32)), (.ref w__SwitchMap_com_example_vestry_vestry_ledger_TerminationReason)]))
  obtain ⟨clt3, Art3, qt3, st3, nt3, Ht3, Gt3⟩ := V_w__SwitchMap_com_example_vestry_vestry_ledger_TerminationReason
  have hint3 : ¬ ((0 : Int32) < 0 ∨ clt3.slots.size ≤ ((0 : Int32)).toNatClampNeg) := inb_of st3 ⟨by decide, by decide⟩
  refine Go.of (fun _ k => X2.iaload hx (j := (0 : Int32)) (v := (.int (1 : Int32))) (by rw [q2_0]; exact Art3.1) (State.isArrayOf_alike hZ.alike Art3.2.1) Art3.2.2 hint3 (Ht3.at hint3 rfl) (g := (mkF m 7 #[.val (.ref o0)] [(.int (0 : Int32)), (.ref w__SwitchMap_com_example_vestry_vestry_ledger_TerminationReason)])) rfl rfl (hb hby d1_7) _ k) ?_
  show Go p e below _ (T2.setTop (mkF m 8 #[.val (.ref o0)] [(.int (1 : Int32))]))
  refine Go.of (fun _ k => XS.tswIn X2.here hx rfl (pc0 := 8) (pc' := 62) rfl (hb hby d1_8) rfl (by decide) (o := 54) (by first | rfl | decide) (by decide) (by decide) k) ?_
  show Go p e below _ (T2.setTop (mkF m 62 #[.val (.ref o0)] []))
  obtain ⟨T4, X4, e4, st4⟩ := getS2 X2 hx hZ hown (host := "") (Or.inl (hw _ (List.mem_of_getElem? (i := 22) rfl))) Via.refl q2_0 S_VOLUNTARY (g := (mkF m 62 #[.val (.ref o0)] [])) rfl (hb hby d1_62)
  refine Go.of st4 ?_
  show Go p e below _ (T4.setTop (mkF m 65 #[.val (.ref o0)] [(.ref w_VOLUNTARY)]))
  refine Go.of (fun _ k => XS.goto X4.here hx rfl (pc0 := 65) (pc' := 95) rfl (hb hby d1_65) (by decide) (by decide) k) ?_
  show Go p e below _ (T4.setTop (mkF m 95 #[.val (.ref o0)] [(.ref w_VOLUNTARY)]))
  obtain ⟨fs, hr, hrun, hended, hW, hsame⟩ := X4.leave (v := some (.ref w_VOLUNTARY)) (fun h => by rw [Bd.returns] at h; cases h)
  refine Go.mk _ _ ?_ hrun hended ⟨_, _, rfl, ?_, ⟨_, rfl⟩, hW, hsame.mono (by decide) (by decide)⟩
  · exact retOut X4 hx Bd.returns rfl (Or.inr (Or.inr (Or.inr (Or.inr ⟨rfl, rfl, rfl⟩)))) (hb hby d1_95) hr
  · show Q1_0 Z o0 w__SwitchMap_com_example_vestry_vestry_ledger_TerminationReason kSM w_VOLUNTARY h0 n0 _ T4.heap _
    rw [e4]
    exact ⟨rfl, N2, rfl⟩
theorem d1_68 : decode prog_87_method_4_code 68 = .ok (.getstatic 13, 3) := by decide +kernel
theorem d1_71 : decode prog_87_method_4_code 71 = .ok (.goto 24, 3) := by decide +kernel
def Q1_1 (Z : State) (o0 : Addr) (w__SwitchMap_com_example_vestry_vestry_ledger_TerminationReason : Addr) (kSM : ClassId) (w_GOOD_REASON : Addr) (h0 : Heap) (n0 : Nat) (v : Option Value) (h : Heap) (L : List Loc) : Prop := v = some (.ref w_GOOD_REASON) ∧ Fr n0 L ∧ h = h0
set_option maxRecDepth 65536 in
set_option maxHeartbeats 40000000 in
theorem rm1_1 (l : Launch) (Z : State) (a0 : Array Value) (hw : ∀ d ∈ tables_1, d.before a0 Z = true) (ws : List Jvm.Cond) (o0 : Addr) (w__SwitchMap_com_example_vestry_vestry_ledger_TerminationReason : Addr) (kSM : ClassId) (w_GOOD_REASON : Addr) (h0 : Heap) (n0 : Nat) (Z0 : n0 ≤ h0.size) (S__SwitchMap_com_example_vestry_vestry_ledger_TerminationReason : Sta Z h0 "com/example/vestry/vestry/plan/TerminationCategory$1" "$SwitchMap$com$example$vestry$vestry$ledger$TerminationReason" "[I" (.ref w__SwitchMap_com_example_vestry_vestry_ledger_TerminationReason)) (F_o0_ordinal : Fld Z h0 o0 "java/lang/Enum" "ordinal" "I" (.int (1 : Int32))) (E_o0 : Exa Z h0 o0 "com/example/vestry/vestry/ledger/TerminationReason") (V_w__SwitchMap_com_example_vestry_vestry_ledger_TerminationReason : Arv Z h0 w__SwitchMap_com_example_vestry_vestry_ledger_TerminationReason kSM .int (7 : Int32) [(.int (1 : Int32)), (.int (3 : Int32)), (.int (2 : Int32)), (.int (4 : Int32)), (.int (5 : Int32)), (.int (6 : Int32)), (.int (7 : Int32))] (.int (0 : Int32))) (S_GOOD_REASON : Sta Z h0 "com/example/vestry/vestry/plan/TerminationCategory" "GOOD_REASON" "Lcom/example/vestry/vestry/plan/TerminationCategory;" (.ref w_GOOD_REASON)) :
    MetFree l (⟨"com/example/vestry/vestry/plan/TerminationCategory", "named", "(Lcom/example/vestry/vestry/ledger/TerminationReason;)Lcom/example/vestry/vestry/plan/TerminationCategory;"⟩ : MethodName) (head1 (Jvm.Cond.code (⟨"com/example/vestry/vestry/plan/TerminationCategory", "named", "(Lcom/example/vestry/vestry/ledger/TerminationReason;)Lcom/example/vestry/vestry/plan/TerminationCategory;"⟩ : MethodName) prog_87_method_4_code 1 (some (.object "com/example/vestry/vestry/plan/TerminationCategory")) :: ws) ({ frames := 1, cells := 0, slots := 0, locals := 13 } : Room)) (fun a U => a = #[(.ref o0)] ∧ Z.Warmed39 U.vm ∧ U.heap = h0) (fun _ _ _ _ _ => True) (fun _ U o U' => ∃ v L, o = .returned v ∧ Q1_1 Z o0 w__SwitchMap_com_example_vestry_vestry_ledger_TerminationReason kSM w_GOOD_REASON h0 n0 v U'.heap L ∧ FrameEnd U o U' L ({ frames := 1, cells := 0, slots := 0, locals := 13 } : Room).cells ({ frames := 1, cells := 0, slots := 0, locals := 13 } : Room).slots) := by
  refine MetFree.of_bodySF (plainFor_of_name pn_com_example_vestry_vestry_plan_TerminationCategory) hisR ?_
  intro p e s m args below meth c s₁ Bd hml0 hP hK
  obtain ⟨rfl, hZ, hh⟩ := hP
  have hx := Bd.exec
  have hby := Bd.bytes
  have hml : c.maxLocals = 1 := hml0
  have hown : s.vm.findClass "com/example/vestry/vestry/plan/TerminationCategory" = some m.cls := findClass_of_methodNamed Bd.named
  have hnm := (name_of_methodNamed Bd.named Bd.method).1
  have X0 : Stand p l e ({ frames := 1, cells := 0, slots := 0, locals := 13 } : Room) s m #[(.ref o0)] below meth c s₁ [] 0 0 := Stand.of_body Bd
  have e0 : s₁.heap = h0 := by rw [← hh, Bd.state]; rfl
  have N0 := Fr.nil n0
  show Go p e below (fun o U' => ∃ v L, o = .returned v ∧ Q1_1 Z o0 w__SwitchMap_com_example_vestry_vestry_ledger_TerminationReason kSM w_GOOD_REASON h0 n0 v U'.heap L ∧ FrameEnd s o U' L ({ frames := 1, cells := 0, slots := 0, locals := 13 } : Room).cells ({ frames := 1, cells := 0, slots := 0, locals := 13 } : Room).slots) (s₁.setTop (entryFrame m #[(.ref o0)] 1))
  refine Go.of (fun _ k => castTop (ef_1 m o0) k) ?_
  show Go p e below _ (s₁.setTop (mkF m 0 #[.val (.ref o0)] []))
  obtain ⟨T1, X1, e1, st1⟩ := getS2 X0 hx hZ hown (host := "") (Or.inl (hw _ (List.mem_of_getElem? (i := 10) rfl))) Via.refl e0 S__SwitchMap_com_example_vestry_vestry_ledger_TerminationReason (g := (mkF m 0 #[.val (.ref o0)] [])) rfl (hb hby d1_0)
  refine Go.of st1 ?_
  show Go p e below _ (T1.setTop (mkF m 3 #[.val (.ref o0)] [(.ref w__SwitchMap_com_example_vestry_vestry_ledger_TerminationReason)]))
  refine Go.of (fun _ k => XS.aloadN X1.here hx rfl (hb hby d1_3) rfl rfl k) ?_
  show Go p e below _ (T1.setTop (mkF m 4 #[.val (.ref o0)] [(.ref o0), (.ref w__SwitchMap_com_example_vestry_vestry_ledger_TerminationReason)]))
  obtain ⟨cq2, kq2, q2a, q2b, q2c⟩ := isOf hZ e1 E_o0
  obtain ⟨_, _, ⟨T2, L2, k2, n2⟩, -, X2, ⟨Lc2, hQ2, l2, y2, z2⟩, st2⟩ := X1.virtualBackUp hx (x := (⟨"com/example/vestry/vestry/ledger/TerminationReason", "ordinal", "()I"⟩ : MethodName)) (y := (⟨"java/lang/Enum", "ordinal", "()I"⟩ : MethodName)) (owner := "java/lang/Enum") hown (mvT hZ (hw _ (List.mem_of_getElem? (i := 13) rfl))) (mvT hZ (hw _ (List.mem_of_getElem? (i := 14) rfl))) (mvT hZ (hw _ (List.mem_of_getElem? (i := 15) rfl))) (by decide) (mvT hZ (hw _ (List.mem_of_getElem? (i := 17) rfl))) (mvT hZ (hw _ (List.mem_of_getElem? (i := 16) rfl))) (backOf (W := 1) (rm2 l Z a0 hw [] o0 (1 : Int32) h0 n0 Z0 F_o0_ordinal) hZ (hw _ (List.mem_of_getElem? (i := 19) rfl)) (hw _ (List.mem_of_getElem? (i := 18) rfl)) (by decide) (by decide)) q2a q2c (g := (mkF m 4 #[.val (.ref o0)] [(.ref o0), (.ref w__SwitchMap_com_example_vestry_vestry_ledger_TerminationReason)])) rfl (by rw [hml]; rfl) (Steps.refl _) (argsL := []) (rest := [(.ref w__SwitchMap_com_example_vestry_vestry_ledger_TerminationReason)]) (lenOf pd_0 rfl) rfl (by show 2 * 0 + _ ≤ _; exact Nat.le_of_eq rfl) (hb hby d1_4) (fun _ _ => ⟨rfl, e1, (by decide : 0 + 0 ≤ _), (by decide : 0 + 0 ≤ _)⟩)
  dsimp only [Pt.U, Pt.locs, Pt.cells, Pt.slots] at X2 l2 y2 z2 st2 hQ2
  subst l2 y2 z2
  obtain ⟨rfl, Nq2, q2_0⟩ := hQ2
  have N2 := Fr.app N0 Nq2
  refine Go.tr st2 ?_
  show Go p e below _ (T2.setTop (mkF m 7 #[.val (.ref o0)] [(.int (1 : Int32)), (.ref w__SwitchMap_com_example_vestry_vestry_ledger_TerminationReason)]))
  obtain ⟨clt3, Art3, qt3, st3, nt3, Ht3, Gt3⟩ := V_w__SwitchMap_com_example_vestry_vestry_ledger_TerminationReason
  have hint3 : ¬ ((1 : Int32) < 0 ∨ clt3.slots.size ≤ ((1 : Int32)).toNatClampNeg) := inb_of st3 ⟨by decide, by decide⟩
  refine Go.of (fun _ k => X2.iaload hx (j := (1 : Int32)) (v := (.int (3 : Int32))) (by rw [q2_0]; exact Art3.1) (State.isArrayOf_alike hZ.alike Art3.2.1) Art3.2.2 hint3 (Ht3.at hint3 rfl) (g := (mkF m 7 #[.val (.ref o0)] [(.int (1 : Int32)), (.ref w__SwitchMap_com_example_vestry_vestry_ledger_TerminationReason)])) rfl rfl (hb hby d1_7) _ k) ?_
  show Go p e below _ (T2.setTop (mkF m 8 #[.val (.ref o0)] [(.int (3 : Int32))]))
  refine Go.of (fun _ k => XS.tswIn X2.here hx rfl (pc0 := 8) (pc' := 68) rfl (hb hby d1_8) rfl (by decide) (o := 60) (by first | rfl | decide) (by decide) (by decide) k) ?_
  show Go p e below _ (T2.setTop (mkF m 68 #[.val (.ref o0)] []))
  obtain ⟨T4, X4, e4, st4⟩ := getS2 X2 hx hZ hown (host := "") (Or.inl (hw _ (List.mem_of_getElem? (i := 51) rfl))) Via.refl q2_0 S_GOOD_REASON (g := (mkF m 68 #[.val (.ref o0)] [])) rfl (hb hby d1_68)
  refine Go.of st4 ?_
  show Go p e below _ (T4.setTop (mkF m 71 #[.val (.ref o0)] [(.ref w_GOOD_REASON)]))
  refine Go.of (fun _ k => XS.goto X4.here hx rfl (pc0 := 71) (pc' := 95) rfl (hb hby d1_71) (by decide) (by decide) k) ?_
  show Go p e below _ (T4.setTop (mkF m 95 #[.val (.ref o0)] [(.ref w_GOOD_REASON)]))
  obtain ⟨fs, hr, hrun, hended, hW, hsame⟩ := X4.leave (v := some (.ref w_GOOD_REASON)) (fun h => by rw [Bd.returns] at h; cases h)
  refine Go.mk _ _ ?_ hrun hended ⟨_, _, rfl, ?_, ⟨_, rfl⟩, hW, hsame.mono (by decide) (by decide)⟩
  · exact retOut X4 hx Bd.returns rfl (Or.inr (Or.inr (Or.inr (Or.inr ⟨rfl, rfl, rfl⟩)))) (hb hby d1_95) hr
  · show Q1_1 Z o0 w__SwitchMap_com_example_vestry_vestry_ledger_TerminationReason kSM w_GOOD_REASON h0 n0 _ T4.heap _
    rw [e4]
    exact ⟨rfl, N2, rfl⟩
def Q1_2 (Z : State) (o0 : Addr) (w__SwitchMap_com_example_vestry_vestry_ledger_TerminationReason : Addr) (kSM : ClassId) (w_VOLUNTARY : Addr) (h0 : Heap) (n0 : Nat) (v : Option Value) (h : Heap) (L : List Loc) : Prop := v = some (.ref w_VOLUNTARY) ∧ Fr n0 L ∧ h = h0
set_option maxRecDepth 65536 in
set_option maxHeartbeats 40000000 in
theorem rm1_2 (l : Launch) (Z : State) (a0 : Array Value) (hw : ∀ d ∈ tables_1, d.before a0 Z = true) (ws : List Jvm.Cond) (o0 : Addr) (w__SwitchMap_com_example_vestry_vestry_ledger_TerminationReason : Addr) (kSM : ClassId) (w_VOLUNTARY : Addr) (h0 : Heap) (n0 : Nat) (Z0 : n0 ≤ h0.size) (S__SwitchMap_com_example_vestry_vestry_ledger_TerminationReason : Sta Z h0 "com/example/vestry/vestry/plan/TerminationCategory$1" "$SwitchMap$com$example$vestry$vestry$ledger$TerminationReason" "[I" (.ref w__SwitchMap_com_example_vestry_vestry_ledger_TerminationReason)) (F_o0_ordinal : Fld Z h0 o0 "java/lang/Enum" "ordinal" "I" (.int (2 : Int32))) (E_o0 : Exa Z h0 o0 "com/example/vestry/vestry/ledger/TerminationReason") (V_w__SwitchMap_com_example_vestry_vestry_ledger_TerminationReason : Arv Z h0 w__SwitchMap_com_example_vestry_vestry_ledger_TerminationReason kSM .int (7 : Int32) [(.int (1 : Int32)), (.int (3 : Int32)), (.int (2 : Int32)), (.int (4 : Int32)), (.int (5 : Int32)), (.int (6 : Int32)), (.int (7 : Int32))] (.int (0 : Int32))) (S_VOLUNTARY : Sta Z h0 "com/example/vestry/vestry/plan/TerminationCategory" "VOLUNTARY" "Lcom/example/vestry/vestry/plan/TerminationCategory;" (.ref w_VOLUNTARY)) :
    MetFree l (⟨"com/example/vestry/vestry/plan/TerminationCategory", "named", "(Lcom/example/vestry/vestry/ledger/TerminationReason;)Lcom/example/vestry/vestry/plan/TerminationCategory;"⟩ : MethodName) (head1 (Jvm.Cond.code (⟨"com/example/vestry/vestry/plan/TerminationCategory", "named", "(Lcom/example/vestry/vestry/ledger/TerminationReason;)Lcom/example/vestry/vestry/plan/TerminationCategory;"⟩ : MethodName) prog_87_method_4_code 1 (some (.object "com/example/vestry/vestry/plan/TerminationCategory")) :: ws) ({ frames := 1, cells := 0, slots := 0, locals := 13 } : Room)) (fun a U => a = #[(.ref o0)] ∧ Z.Warmed39 U.vm ∧ U.heap = h0) (fun _ _ _ _ _ => True) (fun _ U o U' => ∃ v L, o = .returned v ∧ Q1_2 Z o0 w__SwitchMap_com_example_vestry_vestry_ledger_TerminationReason kSM w_VOLUNTARY h0 n0 v U'.heap L ∧ FrameEnd U o U' L ({ frames := 1, cells := 0, slots := 0, locals := 13 } : Room).cells ({ frames := 1, cells := 0, slots := 0, locals := 13 } : Room).slots) := by
  refine MetFree.of_bodySF (plainFor_of_name pn_com_example_vestry_vestry_plan_TerminationCategory) hisR ?_
  intro p e s m args below meth c s₁ Bd hml0 hP hK
  obtain ⟨rfl, hZ, hh⟩ := hP
  have hx := Bd.exec
  have hby := Bd.bytes
  have hml : c.maxLocals = 1 := hml0
  have hown : s.vm.findClass "com/example/vestry/vestry/plan/TerminationCategory" = some m.cls := findClass_of_methodNamed Bd.named
  have hnm := (name_of_methodNamed Bd.named Bd.method).1
  have X0 : Stand p l e ({ frames := 1, cells := 0, slots := 0, locals := 13 } : Room) s m #[(.ref o0)] below meth c s₁ [] 0 0 := Stand.of_body Bd
  have e0 : s₁.heap = h0 := by rw [← hh, Bd.state]; rfl
  have N0 := Fr.nil n0
  show Go p e below (fun o U' => ∃ v L, o = .returned v ∧ Q1_2 Z o0 w__SwitchMap_com_example_vestry_vestry_ledger_TerminationReason kSM w_VOLUNTARY h0 n0 v U'.heap L ∧ FrameEnd s o U' L ({ frames := 1, cells := 0, slots := 0, locals := 13 } : Room).cells ({ frames := 1, cells := 0, slots := 0, locals := 13 } : Room).slots) (s₁.setTop (entryFrame m #[(.ref o0)] 1))
  refine Go.of (fun _ k => castTop (ef_1 m o0) k) ?_
  show Go p e below _ (s₁.setTop (mkF m 0 #[.val (.ref o0)] []))
  obtain ⟨T1, X1, e1, st1⟩ := getS2 X0 hx hZ hown (host := "") (Or.inl (hw _ (List.mem_of_getElem? (i := 10) rfl))) Via.refl e0 S__SwitchMap_com_example_vestry_vestry_ledger_TerminationReason (g := (mkF m 0 #[.val (.ref o0)] [])) rfl (hb hby d1_0)
  refine Go.of st1 ?_
  show Go p e below _ (T1.setTop (mkF m 3 #[.val (.ref o0)] [(.ref w__SwitchMap_com_example_vestry_vestry_ledger_TerminationReason)]))
  refine Go.of (fun _ k => XS.aloadN X1.here hx rfl (hb hby d1_3) rfl rfl k) ?_
  show Go p e below _ (T1.setTop (mkF m 4 #[.val (.ref o0)] [(.ref o0), (.ref w__SwitchMap_com_example_vestry_vestry_ledger_TerminationReason)]))
  obtain ⟨cq2, kq2, q2a, q2b, q2c⟩ := isOf hZ e1 E_o0
  obtain ⟨_, _, ⟨T2, L2, k2, n2⟩, -, X2, ⟨Lc2, hQ2, l2, y2, z2⟩, st2⟩ := X1.virtualBackUp hx (x := (⟨"com/example/vestry/vestry/ledger/TerminationReason", "ordinal", "()I"⟩ : MethodName)) (y := (⟨"java/lang/Enum", "ordinal", "()I"⟩ : MethodName)) (owner := "java/lang/Enum") hown (mvT hZ (hw _ (List.mem_of_getElem? (i := 13) rfl))) (mvT hZ (hw _ (List.mem_of_getElem? (i := 14) rfl))) (mvT hZ (hw _ (List.mem_of_getElem? (i := 15) rfl))) (by decide) (mvT hZ (hw _ (List.mem_of_getElem? (i := 17) rfl))) (mvT hZ (hw _ (List.mem_of_getElem? (i := 16) rfl))) (backOf (W := 1) (rm2 l Z a0 hw [] o0 (2 : Int32) h0 n0 Z0 F_o0_ordinal) hZ (hw _ (List.mem_of_getElem? (i := 19) rfl)) (hw _ (List.mem_of_getElem? (i := 18) rfl)) (by decide) (by decide)) q2a q2c (g := (mkF m 4 #[.val (.ref o0)] [(.ref o0), (.ref w__SwitchMap_com_example_vestry_vestry_ledger_TerminationReason)])) rfl (by rw [hml]; rfl) (Steps.refl _) (argsL := []) (rest := [(.ref w__SwitchMap_com_example_vestry_vestry_ledger_TerminationReason)]) (lenOf pd_0 rfl) rfl (by show 2 * 0 + _ ≤ _; exact Nat.le_of_eq rfl) (hb hby d1_4) (fun _ _ => ⟨rfl, e1, (by decide : 0 + 0 ≤ _), (by decide : 0 + 0 ≤ _)⟩)
  dsimp only [Pt.U, Pt.locs, Pt.cells, Pt.slots] at X2 l2 y2 z2 st2 hQ2
  subst l2 y2 z2
  obtain ⟨rfl, Nq2, q2_0⟩ := hQ2
  have N2 := Fr.app N0 Nq2
  refine Go.tr st2 ?_
  show Go p e below _ (T2.setTop (mkF m 7 #[.val (.ref o0)] [(.int (2 : Int32)), (.ref w__SwitchMap_com_example_vestry_vestry_ledger_TerminationReason)]))
  obtain ⟨clt3, Art3, qt3, st3, nt3, Ht3, Gt3⟩ := V_w__SwitchMap_com_example_vestry_vestry_ledger_TerminationReason
  have hint3 : ¬ ((2 : Int32) < 0 ∨ clt3.slots.size ≤ ((2 : Int32)).toNatClampNeg) := inb_of st3 ⟨by decide, by decide⟩
  refine Go.of (fun _ k => X2.iaload hx (j := (2 : Int32)) (v := (.int (2 : Int32))) (by rw [q2_0]; exact Art3.1) (State.isArrayOf_alike hZ.alike Art3.2.1) Art3.2.2 hint3 (Ht3.at hint3 rfl) (g := (mkF m 7 #[.val (.ref o0)] [(.int (2 : Int32)), (.ref w__SwitchMap_com_example_vestry_vestry_ledger_TerminationReason)])) rfl rfl (hb hby d1_7) _ k) ?_
  show Go p e below _ (T2.setTop (mkF m 8 #[.val (.ref o0)] [(.int (2 : Int32))]))
  refine Go.of (fun _ k => XS.tswIn X2.here hx rfl (pc0 := 8) (pc' := 62) rfl (hb hby d1_8) rfl (by decide) (o := 54) (by first | rfl | decide) (by decide) (by decide) k) ?_
  show Go p e below _ (T2.setTop (mkF m 62 #[.val (.ref o0)] []))
  obtain ⟨T4, X4, e4, st4⟩ := getS2 X2 hx hZ hown (host := "") (Or.inl (hw _ (List.mem_of_getElem? (i := 22) rfl))) Via.refl q2_0 S_VOLUNTARY (g := (mkF m 62 #[.val (.ref o0)] [])) rfl (hb hby d1_62)
  refine Go.of st4 ?_
  show Go p e below _ (T4.setTop (mkF m 65 #[.val (.ref o0)] [(.ref w_VOLUNTARY)]))
  refine Go.of (fun _ k => XS.goto X4.here hx rfl (pc0 := 65) (pc' := 95) rfl (hb hby d1_65) (by decide) (by decide) k) ?_
  show Go p e below _ (T4.setTop (mkF m 95 #[.val (.ref o0)] [(.ref w_VOLUNTARY)]))
  obtain ⟨fs, hr, hrun, hended, hW, hsame⟩ := X4.leave (v := some (.ref w_VOLUNTARY)) (fun h => by rw [Bd.returns] at h; cases h)
  refine Go.mk _ _ ?_ hrun hended ⟨_, _, rfl, ?_, ⟨_, rfl⟩, hW, hsame.mono (by decide) (by decide)⟩
  · exact retOut X4 hx Bd.returns rfl (Or.inr (Or.inr (Or.inr (Or.inr ⟨rfl, rfl, rfl⟩)))) (hb hby d1_95) hr
  · show Q1_2 Z o0 w__SwitchMap_com_example_vestry_vestry_ledger_TerminationReason kSM w_VOLUNTARY h0 n0 _ T4.heap _
    rw [e4]
    exact ⟨rfl, N2, rfl⟩
theorem d1_74 : decode prog_87_method_4_code 74 = .ok (.getstatic 16, 3) := by decide +kernel
theorem d1_77 : decode prog_87_method_4_code 77 = .ok (.goto 18, 3) := by decide +kernel
def Q1_3 (Z : State) (o0 : Addr) (w__SwitchMap_com_example_vestry_vestry_ledger_TerminationReason : Addr) (kSM : ClassId) (w_WITHOUT_CAUSE : Addr) (h0 : Heap) (n0 : Nat) (v : Option Value) (h : Heap) (L : List Loc) : Prop := v = some (.ref w_WITHOUT_CAUSE) ∧ Fr n0 L ∧ h = h0
set_option maxRecDepth 65536 in
set_option maxHeartbeats 40000000 in
theorem rm1_3 (l : Launch) (Z : State) (a0 : Array Value) (hw : ∀ d ∈ tables_1, d.before a0 Z = true) (ws : List Jvm.Cond) (o0 : Addr) (w__SwitchMap_com_example_vestry_vestry_ledger_TerminationReason : Addr) (kSM : ClassId) (w_WITHOUT_CAUSE : Addr) (h0 : Heap) (n0 : Nat) (Z0 : n0 ≤ h0.size) (S__SwitchMap_com_example_vestry_vestry_ledger_TerminationReason : Sta Z h0 "com/example/vestry/vestry/plan/TerminationCategory$1" "$SwitchMap$com$example$vestry$vestry$ledger$TerminationReason" "[I" (.ref w__SwitchMap_com_example_vestry_vestry_ledger_TerminationReason)) (F_o0_ordinal : Fld Z h0 o0 "java/lang/Enum" "ordinal" "I" (.int (3 : Int32))) (E_o0 : Exa Z h0 o0 "com/example/vestry/vestry/ledger/TerminationReason") (V_w__SwitchMap_com_example_vestry_vestry_ledger_TerminationReason : Arv Z h0 w__SwitchMap_com_example_vestry_vestry_ledger_TerminationReason kSM .int (7 : Int32) [(.int (1 : Int32)), (.int (3 : Int32)), (.int (2 : Int32)), (.int (4 : Int32)), (.int (5 : Int32)), (.int (6 : Int32)), (.int (7 : Int32))] (.int (0 : Int32))) (S_WITHOUT_CAUSE : Sta Z h0 "com/example/vestry/vestry/plan/TerminationCategory" "WITHOUT_CAUSE" "Lcom/example/vestry/vestry/plan/TerminationCategory;" (.ref w_WITHOUT_CAUSE)) :
    MetFree l (⟨"com/example/vestry/vestry/plan/TerminationCategory", "named", "(Lcom/example/vestry/vestry/ledger/TerminationReason;)Lcom/example/vestry/vestry/plan/TerminationCategory;"⟩ : MethodName) (head1 (Jvm.Cond.code (⟨"com/example/vestry/vestry/plan/TerminationCategory", "named", "(Lcom/example/vestry/vestry/ledger/TerminationReason;)Lcom/example/vestry/vestry/plan/TerminationCategory;"⟩ : MethodName) prog_87_method_4_code 1 (some (.object "com/example/vestry/vestry/plan/TerminationCategory")) :: ws) ({ frames := 1, cells := 0, slots := 0, locals := 13 } : Room)) (fun a U => a = #[(.ref o0)] ∧ Z.Warmed39 U.vm ∧ U.heap = h0) (fun _ _ _ _ _ => True) (fun _ U o U' => ∃ v L, o = .returned v ∧ Q1_3 Z o0 w__SwitchMap_com_example_vestry_vestry_ledger_TerminationReason kSM w_WITHOUT_CAUSE h0 n0 v U'.heap L ∧ FrameEnd U o U' L ({ frames := 1, cells := 0, slots := 0, locals := 13 } : Room).cells ({ frames := 1, cells := 0, slots := 0, locals := 13 } : Room).slots) := by
  refine MetFree.of_bodySF (plainFor_of_name pn_com_example_vestry_vestry_plan_TerminationCategory) hisR ?_
  intro p e s m args below meth c s₁ Bd hml0 hP hK
  obtain ⟨rfl, hZ, hh⟩ := hP
  have hx := Bd.exec
  have hby := Bd.bytes
  have hml : c.maxLocals = 1 := hml0
  have hown : s.vm.findClass "com/example/vestry/vestry/plan/TerminationCategory" = some m.cls := findClass_of_methodNamed Bd.named
  have hnm := (name_of_methodNamed Bd.named Bd.method).1
  have X0 : Stand p l e ({ frames := 1, cells := 0, slots := 0, locals := 13 } : Room) s m #[(.ref o0)] below meth c s₁ [] 0 0 := Stand.of_body Bd
  have e0 : s₁.heap = h0 := by rw [← hh, Bd.state]; rfl
  have N0 := Fr.nil n0
  show Go p e below (fun o U' => ∃ v L, o = .returned v ∧ Q1_3 Z o0 w__SwitchMap_com_example_vestry_vestry_ledger_TerminationReason kSM w_WITHOUT_CAUSE h0 n0 v U'.heap L ∧ FrameEnd s o U' L ({ frames := 1, cells := 0, slots := 0, locals := 13 } : Room).cells ({ frames := 1, cells := 0, slots := 0, locals := 13 } : Room).slots) (s₁.setTop (entryFrame m #[(.ref o0)] 1))
  refine Go.of (fun _ k => castTop (ef_1 m o0) k) ?_
  show Go p e below _ (s₁.setTop (mkF m 0 #[.val (.ref o0)] []))
  obtain ⟨T1, X1, e1, st1⟩ := getS2 X0 hx hZ hown (host := "") (Or.inl (hw _ (List.mem_of_getElem? (i := 10) rfl))) Via.refl e0 S__SwitchMap_com_example_vestry_vestry_ledger_TerminationReason (g := (mkF m 0 #[.val (.ref o0)] [])) rfl (hb hby d1_0)
  refine Go.of st1 ?_
  show Go p e below _ (T1.setTop (mkF m 3 #[.val (.ref o0)] [(.ref w__SwitchMap_com_example_vestry_vestry_ledger_TerminationReason)]))
  refine Go.of (fun _ k => XS.aloadN X1.here hx rfl (hb hby d1_3) rfl rfl k) ?_
  show Go p e below _ (T1.setTop (mkF m 4 #[.val (.ref o0)] [(.ref o0), (.ref w__SwitchMap_com_example_vestry_vestry_ledger_TerminationReason)]))
  obtain ⟨cq2, kq2, q2a, q2b, q2c⟩ := isOf hZ e1 E_o0
  obtain ⟨_, _, ⟨T2, L2, k2, n2⟩, -, X2, ⟨Lc2, hQ2, l2, y2, z2⟩, st2⟩ := X1.virtualBackUp hx (x := (⟨"com/example/vestry/vestry/ledger/TerminationReason", "ordinal", "()I"⟩ : MethodName)) (y := (⟨"java/lang/Enum", "ordinal", "()I"⟩ : MethodName)) (owner := "java/lang/Enum") hown (mvT hZ (hw _ (List.mem_of_getElem? (i := 13) rfl))) (mvT hZ (hw _ (List.mem_of_getElem? (i := 14) rfl))) (mvT hZ (hw _ (List.mem_of_getElem? (i := 15) rfl))) (by decide) (mvT hZ (hw _ (List.mem_of_getElem? (i := 17) rfl))) (mvT hZ (hw _ (List.mem_of_getElem? (i := 16) rfl))) (backOf (W := 1) (rm2 l Z a0 hw [] o0 (3 : Int32) h0 n0 Z0 F_o0_ordinal) hZ (hw _ (List.mem_of_getElem? (i := 19) rfl)) (hw _ (List.mem_of_getElem? (i := 18) rfl)) (by decide) (by decide)) q2a q2c (g := (mkF m 4 #[.val (.ref o0)] [(.ref o0), (.ref w__SwitchMap_com_example_vestry_vestry_ledger_TerminationReason)])) rfl (by rw [hml]; rfl) (Steps.refl _) (argsL := []) (rest := [(.ref w__SwitchMap_com_example_vestry_vestry_ledger_TerminationReason)]) (lenOf pd_0 rfl) rfl (by show 2 * 0 + _ ≤ _; exact Nat.le_of_eq rfl) (hb hby d1_4) (fun _ _ => ⟨rfl, e1, (by decide : 0 + 0 ≤ _), (by decide : 0 + 0 ≤ _)⟩)
  dsimp only [Pt.U, Pt.locs, Pt.cells, Pt.slots] at X2 l2 y2 z2 st2 hQ2
  subst l2 y2 z2
  obtain ⟨rfl, Nq2, q2_0⟩ := hQ2
  have N2 := Fr.app N0 Nq2
  refine Go.tr st2 ?_
  show Go p e below _ (T2.setTop (mkF m 7 #[.val (.ref o0)] [(.int (3 : Int32)), (.ref w__SwitchMap_com_example_vestry_vestry_ledger_TerminationReason)]))
  obtain ⟨clt3, Art3, qt3, st3, nt3, Ht3, Gt3⟩ := V_w__SwitchMap_com_example_vestry_vestry_ledger_TerminationReason
  have hint3 : ¬ ((3 : Int32) < 0 ∨ clt3.slots.size ≤ ((3 : Int32)).toNatClampNeg) := inb_of st3 ⟨by decide, by decide⟩
  refine Go.of (fun _ k => X2.iaload hx (j := (3 : Int32)) (v := (.int (4 : Int32))) (by rw [q2_0]; exact Art3.1) (State.isArrayOf_alike hZ.alike Art3.2.1) Art3.2.2 hint3 (Ht3.at hint3 rfl) (g := (mkF m 7 #[.val (.ref o0)] [(.int (3 : Int32)), (.ref w__SwitchMap_com_example_vestry_vestry_ledger_TerminationReason)])) rfl rfl (hb hby d1_7) _ k) ?_
  show Go p e below _ (T2.setTop (mkF m 8 #[.val (.ref o0)] [(.int (4 : Int32))]))
  refine Go.of (fun _ k => XS.tswIn X2.here hx rfl (pc0 := 8) (pc' := 74) rfl (hb hby d1_8) rfl (by decide) (o := 66) (by first | rfl | decide) (by decide) (by decide) k) ?_
  show Go p e below _ (T2.setTop (mkF m 74 #[.val (.ref o0)] []))
  obtain ⟨T4, X4, e4, st4⟩ := getS2 X2 hx hZ hown (host := "") (Or.inl (hw _ (List.mem_of_getElem? (i := 29) rfl))) Via.refl q2_0 S_WITHOUT_CAUSE (g := (mkF m 74 #[.val (.ref o0)] [])) rfl (hb hby d1_74)
  refine Go.of st4 ?_
  show Go p e below _ (T4.setTop (mkF m 77 #[.val (.ref o0)] [(.ref w_WITHOUT_CAUSE)]))
  refine Go.of (fun _ k => XS.goto X4.here hx rfl (pc0 := 77) (pc' := 95) rfl (hb hby d1_77) (by decide) (by decide) k) ?_
  show Go p e below _ (T4.setTop (mkF m 95 #[.val (.ref o0)] [(.ref w_WITHOUT_CAUSE)]))
  obtain ⟨fs, hr, hrun, hended, hW, hsame⟩ := X4.leave (v := some (.ref w_WITHOUT_CAUSE)) (fun h => by rw [Bd.returns] at h; cases h)
  refine Go.mk _ _ ?_ hrun hended ⟨_, _, rfl, ?_, ⟨_, rfl⟩, hW, hsame.mono (by decide) (by decide)⟩
  · exact retOut X4 hx Bd.returns rfl (Or.inr (Or.inr (Or.inr (Or.inr ⟨rfl, rfl, rfl⟩)))) (hb hby d1_95) hr
  · show Q1_3 Z o0 w__SwitchMap_com_example_vestry_vestry_ledger_TerminationReason kSM w_WITHOUT_CAUSE h0 n0 _ T4.heap _
    rw [e4]
    exact ⟨rfl, N2, rfl⟩
theorem d1_80 : decode prog_87_method_4_code 80 = .ok (.getstatic 3, 3) := by decide +kernel
theorem d1_83 : decode prog_87_method_4_code 83 = .ok (.goto 12, 3) := by decide +kernel
def Q1_4 (Z : State) (o0 : Addr) (w__SwitchMap_com_example_vestry_vestry_ledger_TerminationReason : Addr) (kSM : ClassId) (w_DEATH : Addr) (h0 : Heap) (n0 : Nat) (v : Option Value) (h : Heap) (L : List Loc) : Prop := v = some (.ref w_DEATH) ∧ Fr n0 L ∧ h = h0
set_option maxRecDepth 65536 in
set_option maxHeartbeats 40000000 in
theorem rm1_4 (l : Launch) (Z : State) (a0 : Array Value) (hw : ∀ d ∈ tables_1, d.before a0 Z = true) (ws : List Jvm.Cond) (o0 : Addr) (w__SwitchMap_com_example_vestry_vestry_ledger_TerminationReason : Addr) (kSM : ClassId) (w_DEATH : Addr) (h0 : Heap) (n0 : Nat) (Z0 : n0 ≤ h0.size) (S__SwitchMap_com_example_vestry_vestry_ledger_TerminationReason : Sta Z h0 "com/example/vestry/vestry/plan/TerminationCategory$1" "$SwitchMap$com$example$vestry$vestry$ledger$TerminationReason" "[I" (.ref w__SwitchMap_com_example_vestry_vestry_ledger_TerminationReason)) (F_o0_ordinal : Fld Z h0 o0 "java/lang/Enum" "ordinal" "I" (.int (4 : Int32))) (E_o0 : Exa Z h0 o0 "com/example/vestry/vestry/ledger/TerminationReason") (V_w__SwitchMap_com_example_vestry_vestry_ledger_TerminationReason : Arv Z h0 w__SwitchMap_com_example_vestry_vestry_ledger_TerminationReason kSM .int (7 : Int32) [(.int (1 : Int32)), (.int (3 : Int32)), (.int (2 : Int32)), (.int (4 : Int32)), (.int (5 : Int32)), (.int (6 : Int32)), (.int (7 : Int32))] (.int (0 : Int32))) (S_DEATH : Sta Z h0 "com/example/vestry/vestry/plan/TerminationCategory" "DEATH" "Lcom/example/vestry/vestry/plan/TerminationCategory;" (.ref w_DEATH)) :
    MetFree l (⟨"com/example/vestry/vestry/plan/TerminationCategory", "named", "(Lcom/example/vestry/vestry/ledger/TerminationReason;)Lcom/example/vestry/vestry/plan/TerminationCategory;"⟩ : MethodName) (head1 (Jvm.Cond.code (⟨"com/example/vestry/vestry/plan/TerminationCategory", "named", "(Lcom/example/vestry/vestry/ledger/TerminationReason;)Lcom/example/vestry/vestry/plan/TerminationCategory;"⟩ : MethodName) prog_87_method_4_code 1 (some (.object "com/example/vestry/vestry/plan/TerminationCategory")) :: ws) ({ frames := 1, cells := 0, slots := 0, locals := 13 } : Room)) (fun a U => a = #[(.ref o0)] ∧ Z.Warmed39 U.vm ∧ U.heap = h0) (fun _ _ _ _ _ => True) (fun _ U o U' => ∃ v L, o = .returned v ∧ Q1_4 Z o0 w__SwitchMap_com_example_vestry_vestry_ledger_TerminationReason kSM w_DEATH h0 n0 v U'.heap L ∧ FrameEnd U o U' L ({ frames := 1, cells := 0, slots := 0, locals := 13 } : Room).cells ({ frames := 1, cells := 0, slots := 0, locals := 13 } : Room).slots) := by
  refine MetFree.of_bodySF (plainFor_of_name pn_com_example_vestry_vestry_plan_TerminationCategory) hisR ?_
  intro p e s m args below meth c s₁ Bd hml0 hP hK
  obtain ⟨rfl, hZ, hh⟩ := hP
  have hx := Bd.exec
  have hby := Bd.bytes
  have hml : c.maxLocals = 1 := hml0
  have hown : s.vm.findClass "com/example/vestry/vestry/plan/TerminationCategory" = some m.cls := findClass_of_methodNamed Bd.named
  have hnm := (name_of_methodNamed Bd.named Bd.method).1
  have X0 : Stand p l e ({ frames := 1, cells := 0, slots := 0, locals := 13 } : Room) s m #[(.ref o0)] below meth c s₁ [] 0 0 := Stand.of_body Bd
  have e0 : s₁.heap = h0 := by rw [← hh, Bd.state]; rfl
  have N0 := Fr.nil n0
  show Go p e below (fun o U' => ∃ v L, o = .returned v ∧ Q1_4 Z o0 w__SwitchMap_com_example_vestry_vestry_ledger_TerminationReason kSM w_DEATH h0 n0 v U'.heap L ∧ FrameEnd s o U' L ({ frames := 1, cells := 0, slots := 0, locals := 13 } : Room).cells ({ frames := 1, cells := 0, slots := 0, locals := 13 } : Room).slots) (s₁.setTop (entryFrame m #[(.ref o0)] 1))
  refine Go.of (fun _ k => castTop (ef_1 m o0) k) ?_
  show Go p e below _ (s₁.setTop (mkF m 0 #[.val (.ref o0)] []))
  obtain ⟨T1, X1, e1, st1⟩ := getS2 X0 hx hZ hown (host := "") (Or.inl (hw _ (List.mem_of_getElem? (i := 10) rfl))) Via.refl e0 S__SwitchMap_com_example_vestry_vestry_ledger_TerminationReason (g := (mkF m 0 #[.val (.ref o0)] [])) rfl (hb hby d1_0)
  refine Go.of st1 ?_
  show Go p e below _ (T1.setTop (mkF m 3 #[.val (.ref o0)] [(.ref w__SwitchMap_com_example_vestry_vestry_ledger_TerminationReason)]))
  refine Go.of (fun _ k => XS.aloadN X1.here hx rfl (hb hby d1_3) rfl rfl k) ?_
  show Go p e below _ (T1.setTop (mkF m 4 #[.val (.ref o0)] [(.ref o0), (.ref w__SwitchMap_com_example_vestry_vestry_ledger_TerminationReason)]))
  obtain ⟨cq2, kq2, q2a, q2b, q2c⟩ := isOf hZ e1 E_o0
  obtain ⟨_, _, ⟨T2, L2, k2, n2⟩, -, X2, ⟨Lc2, hQ2, l2, y2, z2⟩, st2⟩ := X1.virtualBackUp hx (x := (⟨"com/example/vestry/vestry/ledger/TerminationReason", "ordinal", "()I"⟩ : MethodName)) (y := (⟨"java/lang/Enum", "ordinal", "()I"⟩ : MethodName)) (owner := "java/lang/Enum") hown (mvT hZ (hw _ (List.mem_of_getElem? (i := 13) rfl))) (mvT hZ (hw _ (List.mem_of_getElem? (i := 14) rfl))) (mvT hZ (hw _ (List.mem_of_getElem? (i := 15) rfl))) (by decide) (mvT hZ (hw _ (List.mem_of_getElem? (i := 17) rfl))) (mvT hZ (hw _ (List.mem_of_getElem? (i := 16) rfl))) (backOf (W := 1) (rm2 l Z a0 hw [] o0 (4 : Int32) h0 n0 Z0 F_o0_ordinal) hZ (hw _ (List.mem_of_getElem? (i := 19) rfl)) (hw _ (List.mem_of_getElem? (i := 18) rfl)) (by decide) (by decide)) q2a q2c (g := (mkF m 4 #[.val (.ref o0)] [(.ref o0), (.ref w__SwitchMap_com_example_vestry_vestry_ledger_TerminationReason)])) rfl (by rw [hml]; rfl) (Steps.refl _) (argsL := []) (rest := [(.ref w__SwitchMap_com_example_vestry_vestry_ledger_TerminationReason)]) (lenOf pd_0 rfl) rfl (by show 2 * 0 + _ ≤ _; exact Nat.le_of_eq rfl) (hb hby d1_4) (fun _ _ => ⟨rfl, e1, (by decide : 0 + 0 ≤ _), (by decide : 0 + 0 ≤ _)⟩)
  dsimp only [Pt.U, Pt.locs, Pt.cells, Pt.slots] at X2 l2 y2 z2 st2 hQ2
  subst l2 y2 z2
  obtain ⟨rfl, Nq2, q2_0⟩ := hQ2
  have N2 := Fr.app N0 Nq2
  refine Go.tr st2 ?_
  show Go p e below _ (T2.setTop (mkF m 7 #[.val (.ref o0)] [(.int (4 : Int32)), (.ref w__SwitchMap_com_example_vestry_vestry_ledger_TerminationReason)]))
  obtain ⟨clt3, Art3, qt3, st3, nt3, Ht3, Gt3⟩ := V_w__SwitchMap_com_example_vestry_vestry_ledger_TerminationReason
  have hint3 : ¬ ((4 : Int32) < 0 ∨ clt3.slots.size ≤ ((4 : Int32)).toNatClampNeg) := inb_of st3 ⟨by decide, by decide⟩
  refine Go.of (fun _ k => X2.iaload hx (j := (4 : Int32)) (v := (.int (5 : Int32))) (by rw [q2_0]; exact Art3.1) (State.isArrayOf_alike hZ.alike Art3.2.1) Art3.2.2 hint3 (Ht3.at hint3 rfl) (g := (mkF m 7 #[.val (.ref o0)] [(.int (4 : Int32)), (.ref w__SwitchMap_com_example_vestry_vestry_ledger_TerminationReason)])) rfl rfl (hb hby d1_7) _ k) ?_
  show Go p e below _ (T2.setTop (mkF m 8 #[.val (.ref o0)] [(.int (5 : Int32))]))
  refine Go.of (fun _ k => XS.tswIn X2.here hx rfl (pc0 := 8) (pc' := 80) rfl (hb hby d1_8) rfl (by decide) (o := 72) (by first | rfl | decide) (by decide) (by decide) k) ?_
  show Go p e below _ (T2.setTop (mkF m 80 #[.val (.ref o0)] []))
  obtain ⟨T4, X4, e4, st4⟩ := getS2 X2 hx hZ hown (host := "") (Or.inl (hw _ (List.mem_of_getElem? (i := 44) rfl))) Via.refl q2_0 S_DEATH (g := (mkF m 80 #[.val (.ref o0)] [])) rfl (hb hby d1_80)
  refine Go.of st4 ?_
  show Go p e below _ (T4.setTop (mkF m 83 #[.val (.ref o0)] [(.ref w_DEATH)]))
  refine Go.of (fun _ k => XS.goto X4.here hx rfl (pc0 := 83) (pc' := 95) rfl (hb hby d1_83) (by decide) (by decide) k) ?_
  show Go p e below _ (T4.setTop (mkF m 95 #[.val (.ref o0)] [(.ref w_DEATH)]))
  obtain ⟨fs, hr, hrun, hended, hW, hsame⟩ := X4.leave (v := some (.ref w_DEATH)) (fun h => by rw [Bd.returns] at h; cases h)
  refine Go.mk _ _ ?_ hrun hended ⟨_, _, rfl, ?_, ⟨_, rfl⟩, hW, hsame.mono (by decide) (by decide)⟩
  · exact retOut X4 hx Bd.returns rfl (Or.inr (Or.inr (Or.inr (Or.inr ⟨rfl, rfl, rfl⟩)))) (hb hby d1_95) hr
  · show Q1_4 Z o0 w__SwitchMap_com_example_vestry_vestry_ledger_TerminationReason kSM w_DEATH h0 n0 _ T4.heap _
    rw [e4]
    exact ⟨rfl, N2, rfl⟩
theorem d1_86 : decode prog_87_method_4_code 86 = .ok (.getstatic 7, 3) := by decide +kernel
theorem d1_89 : decode prog_87_method_4_code 89 = .ok (.goto 6, 3) := by decide +kernel
def Q1_5 (Z : State) (o0 : Addr) (w__SwitchMap_com_example_vestry_vestry_ledger_TerminationReason : Addr) (kSM : ClassId) (w_DISABILITY : Addr) (h0 : Heap) (n0 : Nat) (v : Option Value) (h : Heap) (L : List Loc) : Prop := v = some (.ref w_DISABILITY) ∧ Fr n0 L ∧ h = h0
set_option maxRecDepth 65536 in
set_option maxHeartbeats 40000000 in
theorem rm1_5 (l : Launch) (Z : State) (a0 : Array Value) (hw : ∀ d ∈ tables_1, d.before a0 Z = true) (ws : List Jvm.Cond) (o0 : Addr) (w__SwitchMap_com_example_vestry_vestry_ledger_TerminationReason : Addr) (kSM : ClassId) (w_DISABILITY : Addr) (h0 : Heap) (n0 : Nat) (Z0 : n0 ≤ h0.size) (S__SwitchMap_com_example_vestry_vestry_ledger_TerminationReason : Sta Z h0 "com/example/vestry/vestry/plan/TerminationCategory$1" "$SwitchMap$com$example$vestry$vestry$ledger$TerminationReason" "[I" (.ref w__SwitchMap_com_example_vestry_vestry_ledger_TerminationReason)) (F_o0_ordinal : Fld Z h0 o0 "java/lang/Enum" "ordinal" "I" (.int (5 : Int32))) (E_o0 : Exa Z h0 o0 "com/example/vestry/vestry/ledger/TerminationReason") (V_w__SwitchMap_com_example_vestry_vestry_ledger_TerminationReason : Arv Z h0 w__SwitchMap_com_example_vestry_vestry_ledger_TerminationReason kSM .int (7 : Int32) [(.int (1 : Int32)), (.int (3 : Int32)), (.int (2 : Int32)), (.int (4 : Int32)), (.int (5 : Int32)), (.int (6 : Int32)), (.int (7 : Int32))] (.int (0 : Int32))) (S_DISABILITY : Sta Z h0 "com/example/vestry/vestry/plan/TerminationCategory" "DISABILITY" "Lcom/example/vestry/vestry/plan/TerminationCategory;" (.ref w_DISABILITY)) :
    MetFree l (⟨"com/example/vestry/vestry/plan/TerminationCategory", "named", "(Lcom/example/vestry/vestry/ledger/TerminationReason;)Lcom/example/vestry/vestry/plan/TerminationCategory;"⟩ : MethodName) (head1 (Jvm.Cond.code (⟨"com/example/vestry/vestry/plan/TerminationCategory", "named", "(Lcom/example/vestry/vestry/ledger/TerminationReason;)Lcom/example/vestry/vestry/plan/TerminationCategory;"⟩ : MethodName) prog_87_method_4_code 1 (some (.object "com/example/vestry/vestry/plan/TerminationCategory")) :: ws) ({ frames := 1, cells := 0, slots := 0, locals := 13 } : Room)) (fun a U => a = #[(.ref o0)] ∧ Z.Warmed39 U.vm ∧ U.heap = h0) (fun _ _ _ _ _ => True) (fun _ U o U' => ∃ v L, o = .returned v ∧ Q1_5 Z o0 w__SwitchMap_com_example_vestry_vestry_ledger_TerminationReason kSM w_DISABILITY h0 n0 v U'.heap L ∧ FrameEnd U o U' L ({ frames := 1, cells := 0, slots := 0, locals := 13 } : Room).cells ({ frames := 1, cells := 0, slots := 0, locals := 13 } : Room).slots) := by
  refine MetFree.of_bodySF (plainFor_of_name pn_com_example_vestry_vestry_plan_TerminationCategory) hisR ?_
  intro p e s m args below meth c s₁ Bd hml0 hP hK
  obtain ⟨rfl, hZ, hh⟩ := hP
  have hx := Bd.exec
  have hby := Bd.bytes
  have hml : c.maxLocals = 1 := hml0
  have hown : s.vm.findClass "com/example/vestry/vestry/plan/TerminationCategory" = some m.cls := findClass_of_methodNamed Bd.named
  have hnm := (name_of_methodNamed Bd.named Bd.method).1
  have X0 : Stand p l e ({ frames := 1, cells := 0, slots := 0, locals := 13 } : Room) s m #[(.ref o0)] below meth c s₁ [] 0 0 := Stand.of_body Bd
  have e0 : s₁.heap = h0 := by rw [← hh, Bd.state]; rfl
  have N0 := Fr.nil n0
  show Go p e below (fun o U' => ∃ v L, o = .returned v ∧ Q1_5 Z o0 w__SwitchMap_com_example_vestry_vestry_ledger_TerminationReason kSM w_DISABILITY h0 n0 v U'.heap L ∧ FrameEnd s o U' L ({ frames := 1, cells := 0, slots := 0, locals := 13 } : Room).cells ({ frames := 1, cells := 0, slots := 0, locals := 13 } : Room).slots) (s₁.setTop (entryFrame m #[(.ref o0)] 1))
  refine Go.of (fun _ k => castTop (ef_1 m o0) k) ?_
  show Go p e below _ (s₁.setTop (mkF m 0 #[.val (.ref o0)] []))
  obtain ⟨T1, X1, e1, st1⟩ := getS2 X0 hx hZ hown (host := "") (Or.inl (hw _ (List.mem_of_getElem? (i := 10) rfl))) Via.refl e0 S__SwitchMap_com_example_vestry_vestry_ledger_TerminationReason (g := (mkF m 0 #[.val (.ref o0)] [])) rfl (hb hby d1_0)
  refine Go.of st1 ?_
  show Go p e below _ (T1.setTop (mkF m 3 #[.val (.ref o0)] [(.ref w__SwitchMap_com_example_vestry_vestry_ledger_TerminationReason)]))
  refine Go.of (fun _ k => XS.aloadN X1.here hx rfl (hb hby d1_3) rfl rfl k) ?_
  show Go p e below _ (T1.setTop (mkF m 4 #[.val (.ref o0)] [(.ref o0), (.ref w__SwitchMap_com_example_vestry_vestry_ledger_TerminationReason)]))
  obtain ⟨cq2, kq2, q2a, q2b, q2c⟩ := isOf hZ e1 E_o0
  obtain ⟨_, _, ⟨T2, L2, k2, n2⟩, -, X2, ⟨Lc2, hQ2, l2, y2, z2⟩, st2⟩ := X1.virtualBackUp hx (x := (⟨"com/example/vestry/vestry/ledger/TerminationReason", "ordinal", "()I"⟩ : MethodName)) (y := (⟨"java/lang/Enum", "ordinal", "()I"⟩ : MethodName)) (owner := "java/lang/Enum") hown (mvT hZ (hw _ (List.mem_of_getElem? (i := 13) rfl))) (mvT hZ (hw _ (List.mem_of_getElem? (i := 14) rfl))) (mvT hZ (hw _ (List.mem_of_getElem? (i := 15) rfl))) (by decide) (mvT hZ (hw _ (List.mem_of_getElem? (i := 17) rfl))) (mvT hZ (hw _ (List.mem_of_getElem? (i := 16) rfl))) (backOf (W := 1) (rm2 l Z a0 hw [] o0 (5 : Int32) h0 n0 Z0 F_o0_ordinal) hZ (hw _ (List.mem_of_getElem? (i := 19) rfl)) (hw _ (List.mem_of_getElem? (i := 18) rfl)) (by decide) (by decide)) q2a q2c (g := (mkF m 4 #[.val (.ref o0)] [(.ref o0), (.ref w__SwitchMap_com_example_vestry_vestry_ledger_TerminationReason)])) rfl (by rw [hml]; rfl) (Steps.refl _) (argsL := []) (rest := [(.ref w__SwitchMap_com_example_vestry_vestry_ledger_TerminationReason)]) (lenOf pd_0 rfl) rfl (by show 2 * 0 + _ ≤ _; exact Nat.le_of_eq rfl) (hb hby d1_4) (fun _ _ => ⟨rfl, e1, (by decide : 0 + 0 ≤ _), (by decide : 0 + 0 ≤ _)⟩)
  dsimp only [Pt.U, Pt.locs, Pt.cells, Pt.slots] at X2 l2 y2 z2 st2 hQ2
  subst l2 y2 z2
  obtain ⟨rfl, Nq2, q2_0⟩ := hQ2
  have N2 := Fr.app N0 Nq2
  refine Go.tr st2 ?_
  show Go p e below _ (T2.setTop (mkF m 7 #[.val (.ref o0)] [(.int (5 : Int32)), (.ref w__SwitchMap_com_example_vestry_vestry_ledger_TerminationReason)]))
  obtain ⟨clt3, Art3, qt3, st3, nt3, Ht3, Gt3⟩ := V_w__SwitchMap_com_example_vestry_vestry_ledger_TerminationReason
  have hint3 : ¬ ((5 : Int32) < 0 ∨ clt3.slots.size ≤ ((5 : Int32)).toNatClampNeg) := inb_of st3 ⟨by decide, by decide⟩
  refine Go.of (fun _ k => X2.iaload hx (j := (5 : Int32)) (v := (.int (6 : Int32))) (by rw [q2_0]; exact Art3.1) (State.isArrayOf_alike hZ.alike Art3.2.1) Art3.2.2 hint3 (Ht3.at hint3 rfl) (g := (mkF m 7 #[.val (.ref o0)] [(.int (5 : Int32)), (.ref w__SwitchMap_com_example_vestry_vestry_ledger_TerminationReason)])) rfl rfl (hb hby d1_7) _ k) ?_
  show Go p e below _ (T2.setTop (mkF m 8 #[.val (.ref o0)] [(.int (6 : Int32))]))
  refine Go.of (fun _ k => XS.tswIn X2.here hx rfl (pc0 := 8) (pc' := 86) rfl (hb hby d1_8) rfl (by decide) (o := 78) (by first | rfl | decide) (by decide) (by decide) k) ?_
  show Go p e below _ (T2.setTop (mkF m 86 #[.val (.ref o0)] []))
  obtain ⟨T4, X4, e4, st4⟩ := getS2 X2 hx hZ hown (host := "") (Or.inl (hw _ (List.mem_of_getElem? (i := 34) rfl))) Via.refl q2_0 S_DISABILITY (g := (mkF m 86 #[.val (.ref o0)] [])) rfl (hb hby d1_86)
  refine Go.of st4 ?_
  show Go p e below _ (T4.setTop (mkF m 89 #[.val (.ref o0)] [(.ref w_DISABILITY)]))
  refine Go.of (fun _ k => XS.goto X4.here hx rfl (pc0 := 89) (pc' := 95) rfl (hb hby d1_89) (by decide) (by decide) k) ?_
  show Go p e below _ (T4.setTop (mkF m 95 #[.val (.ref o0)] [(.ref w_DISABILITY)]))
  obtain ⟨fs, hr, hrun, hended, hW, hsame⟩ := X4.leave (v := some (.ref w_DISABILITY)) (fun h => by rw [Bd.returns] at h; cases h)
  refine Go.mk _ _ ?_ hrun hended ⟨_, _, rfl, ?_, ⟨_, rfl⟩, hW, hsame.mono (by decide) (by decide)⟩
  · exact retOut X4 hx Bd.returns rfl (Or.inr (Or.inr (Or.inr (Or.inr ⟨rfl, rfl, rfl⟩)))) (hb hby d1_95) hr
  · show Q1_5 Z o0 w__SwitchMap_com_example_vestry_vestry_ledger_TerminationReason kSM w_DISABILITY h0 n0 _ T4.heap _
    rw [e4]
    exact ⟨rfl, N2, rfl⟩
theorem d1_92 : decode prog_87_method_4_code 92 = .ok (.getstatic 22, 3) := by decide +kernel
def Q1_6 (Z : State) (o0 : Addr) (w__SwitchMap_com_example_vestry_vestry_ledger_TerminationReason : Addr) (kSM : ClassId) (w_CAUSE : Addr) (h0 : Heap) (n0 : Nat) (v : Option Value) (h : Heap) (L : List Loc) : Prop := v = some (.ref w_CAUSE) ∧ Fr n0 L ∧ h = h0
set_option maxRecDepth 65536 in
set_option maxHeartbeats 40000000 in
theorem rm1_6 (l : Launch) (Z : State) (a0 : Array Value) (hw : ∀ d ∈ tables_1, d.before a0 Z = true) (ws : List Jvm.Cond) (o0 : Addr) (w__SwitchMap_com_example_vestry_vestry_ledger_TerminationReason : Addr) (kSM : ClassId) (w_CAUSE : Addr) (h0 : Heap) (n0 : Nat) (Z0 : n0 ≤ h0.size) (S__SwitchMap_com_example_vestry_vestry_ledger_TerminationReason : Sta Z h0 "com/example/vestry/vestry/plan/TerminationCategory$1" "$SwitchMap$com$example$vestry$vestry$ledger$TerminationReason" "[I" (.ref w__SwitchMap_com_example_vestry_vestry_ledger_TerminationReason)) (F_o0_ordinal : Fld Z h0 o0 "java/lang/Enum" "ordinal" "I" (.int (6 : Int32))) (E_o0 : Exa Z h0 o0 "com/example/vestry/vestry/ledger/TerminationReason") (V_w__SwitchMap_com_example_vestry_vestry_ledger_TerminationReason : Arv Z h0 w__SwitchMap_com_example_vestry_vestry_ledger_TerminationReason kSM .int (7 : Int32) [(.int (1 : Int32)), (.int (3 : Int32)), (.int (2 : Int32)), (.int (4 : Int32)), (.int (5 : Int32)), (.int (6 : Int32)), (.int (7 : Int32))] (.int (0 : Int32))) (S_CAUSE : Sta Z h0 "com/example/vestry/vestry/plan/TerminationCategory" "CAUSE" "Lcom/example/vestry/vestry/plan/TerminationCategory;" (.ref w_CAUSE)) :
    MetFree l (⟨"com/example/vestry/vestry/plan/TerminationCategory", "named", "(Lcom/example/vestry/vestry/ledger/TerminationReason;)Lcom/example/vestry/vestry/plan/TerminationCategory;"⟩ : MethodName) (head1 (Jvm.Cond.code (⟨"com/example/vestry/vestry/plan/TerminationCategory", "named", "(Lcom/example/vestry/vestry/ledger/TerminationReason;)Lcom/example/vestry/vestry/plan/TerminationCategory;"⟩ : MethodName) prog_87_method_4_code 1 (some (.object "com/example/vestry/vestry/plan/TerminationCategory")) :: ws) ({ frames := 1, cells := 0, slots := 0, locals := 13 } : Room)) (fun a U => a = #[(.ref o0)] ∧ Z.Warmed39 U.vm ∧ U.heap = h0) (fun _ _ _ _ _ => True) (fun _ U o U' => ∃ v L, o = .returned v ∧ Q1_6 Z o0 w__SwitchMap_com_example_vestry_vestry_ledger_TerminationReason kSM w_CAUSE h0 n0 v U'.heap L ∧ FrameEnd U o U' L ({ frames := 1, cells := 0, slots := 0, locals := 13 } : Room).cells ({ frames := 1, cells := 0, slots := 0, locals := 13 } : Room).slots) := by
  refine MetFree.of_bodySF (plainFor_of_name pn_com_example_vestry_vestry_plan_TerminationCategory) hisR ?_
  intro p e s m args below meth c s₁ Bd hml0 hP hK
  obtain ⟨rfl, hZ, hh⟩ := hP
  have hx := Bd.exec
  have hby := Bd.bytes
  have hml : c.maxLocals = 1 := hml0
  have hown : s.vm.findClass "com/example/vestry/vestry/plan/TerminationCategory" = some m.cls := findClass_of_methodNamed Bd.named
  have hnm := (name_of_methodNamed Bd.named Bd.method).1
  have X0 : Stand p l e ({ frames := 1, cells := 0, slots := 0, locals := 13 } : Room) s m #[(.ref o0)] below meth c s₁ [] 0 0 := Stand.of_body Bd
  have e0 : s₁.heap = h0 := by rw [← hh, Bd.state]; rfl
  have N0 := Fr.nil n0
  show Go p e below (fun o U' => ∃ v L, o = .returned v ∧ Q1_6 Z o0 w__SwitchMap_com_example_vestry_vestry_ledger_TerminationReason kSM w_CAUSE h0 n0 v U'.heap L ∧ FrameEnd s o U' L ({ frames := 1, cells := 0, slots := 0, locals := 13 } : Room).cells ({ frames := 1, cells := 0, slots := 0, locals := 13 } : Room).slots) (s₁.setTop (entryFrame m #[(.ref o0)] 1))
  refine Go.of (fun _ k => castTop (ef_1 m o0) k) ?_
  show Go p e below _ (s₁.setTop (mkF m 0 #[.val (.ref o0)] []))
  obtain ⟨T1, X1, e1, st1⟩ := getS2 X0 hx hZ hown (host := "") (Or.inl (hw _ (List.mem_of_getElem? (i := 10) rfl))) Via.refl e0 S__SwitchMap_com_example_vestry_vestry_ledger_TerminationReason (g := (mkF m 0 #[.val (.ref o0)] [])) rfl (hb hby d1_0)
  refine Go.of st1 ?_
  show Go p e below _ (T1.setTop (mkF m 3 #[.val (.ref o0)] [(.ref w__SwitchMap_com_example_vestry_vestry_ledger_TerminationReason)]))
  refine Go.of (fun _ k => XS.aloadN X1.here hx rfl (hb hby d1_3) rfl rfl k) ?_
  show Go p e below _ (T1.setTop (mkF m 4 #[.val (.ref o0)] [(.ref o0), (.ref w__SwitchMap_com_example_vestry_vestry_ledger_TerminationReason)]))
  obtain ⟨cq2, kq2, q2a, q2b, q2c⟩ := isOf hZ e1 E_o0
  obtain ⟨_, _, ⟨T2, L2, k2, n2⟩, -, X2, ⟨Lc2, hQ2, l2, y2, z2⟩, st2⟩ := X1.virtualBackUp hx (x := (⟨"com/example/vestry/vestry/ledger/TerminationReason", "ordinal", "()I"⟩ : MethodName)) (y := (⟨"java/lang/Enum", "ordinal", "()I"⟩ : MethodName)) (owner := "java/lang/Enum") hown (mvT hZ (hw _ (List.mem_of_getElem? (i := 13) rfl))) (mvT hZ (hw _ (List.mem_of_getElem? (i := 14) rfl))) (mvT hZ (hw _ (List.mem_of_getElem? (i := 15) rfl))) (by decide) (mvT hZ (hw _ (List.mem_of_getElem? (i := 17) rfl))) (mvT hZ (hw _ (List.mem_of_getElem? (i := 16) rfl))) (backOf (W := 1) (rm2 l Z a0 hw [] o0 (6 : Int32) h0 n0 Z0 F_o0_ordinal) hZ (hw _ (List.mem_of_getElem? (i := 19) rfl)) (hw _ (List.mem_of_getElem? (i := 18) rfl)) (by decide) (by decide)) q2a q2c (g := (mkF m 4 #[.val (.ref o0)] [(.ref o0), (.ref w__SwitchMap_com_example_vestry_vestry_ledger_TerminationReason)])) rfl (by rw [hml]; rfl) (Steps.refl _) (argsL := []) (rest := [(.ref w__SwitchMap_com_example_vestry_vestry_ledger_TerminationReason)]) (lenOf pd_0 rfl) rfl (by show 2 * 0 + _ ≤ _; exact Nat.le_of_eq rfl) (hb hby d1_4) (fun _ _ => ⟨rfl, e1, (by decide : 0 + 0 ≤ _), (by decide : 0 + 0 ≤ _)⟩)
  dsimp only [Pt.U, Pt.locs, Pt.cells, Pt.slots] at X2 l2 y2 z2 st2 hQ2
  subst l2 y2 z2
  obtain ⟨rfl, Nq2, q2_0⟩ := hQ2
  have N2 := Fr.app N0 Nq2
  refine Go.tr st2 ?_
  show Go p e below _ (T2.setTop (mkF m 7 #[.val (.ref o0)] [(.int (6 : Int32)), (.ref w__SwitchMap_com_example_vestry_vestry_ledger_TerminationReason)]))
  obtain ⟨clt3, Art3, qt3, st3, nt3, Ht3, Gt3⟩ := V_w__SwitchMap_com_example_vestry_vestry_ledger_TerminationReason
  have hint3 : ¬ ((6 : Int32) < 0 ∨ clt3.slots.size ≤ ((6 : Int32)).toNatClampNeg) := inb_of st3 ⟨by decide, by decide⟩
  refine Go.of (fun _ k => X2.iaload hx (j := (6 : Int32)) (v := (.int (7 : Int32))) (by rw [q2_0]; exact Art3.1) (State.isArrayOf_alike hZ.alike Art3.2.1) Art3.2.2 hint3 (Ht3.at hint3 rfl) (g := (mkF m 7 #[.val (.ref o0)] [(.int (6 : Int32)), (.ref w__SwitchMap_com_example_vestry_vestry_ledger_TerminationReason)])) rfl rfl (hb hby d1_7) _ k) ?_
  show Go p e below _ (T2.setTop (mkF m 8 #[.val (.ref o0)] [(.int (7 : Int32))]))
  refine Go.of (fun _ k => XS.tswIn X2.here hx rfl (pc0 := 8) (pc' := 92) rfl (hb hby d1_8) rfl (by decide) (o := 84) (by first | rfl | decide) (by decide) (by decide) k) ?_
  show Go p e below _ (T2.setTop (mkF m 92 #[.val (.ref o0)] []))
  obtain ⟨T4, X4, e4, st4⟩ := getS2 X2 hx hZ hown (host := "") (Or.inl (hw _ (List.mem_of_getElem? (i := 39) rfl))) Via.refl q2_0 S_CAUSE (g := (mkF m 92 #[.val (.ref o0)] [])) rfl (hb hby d1_92)
  refine Go.of st4 ?_
  show Go p e below _ (T4.setTop (mkF m 95 #[.val (.ref o0)] [(.ref w_CAUSE)]))
  obtain ⟨fs, hr, hrun, hended, hW, hsame⟩ := X4.leave (v := some (.ref w_CAUSE)) (fun h => by rw [Bd.returns] at h; cases h)
  refine Go.mk _ _ ?_ hrun hended ⟨_, _, rfl, ?_, ⟨_, rfl⟩, hW, hsame.mono (by decide) (by decide)⟩
  · exact retOut X4 hx Bd.returns rfl (Or.inr (Or.inr (Or.inr (Or.inr ⟨rfl, rfl, rfl⟩)))) (hb hby d1_95) hr
  · show Q1_6 Z o0 w__SwitchMap_com_example_vestry_vestry_ledger_TerminationReason kSM w_CAUSE h0 n0 _ T4.heap _
    rw [e4]
    exact ⟨rfl, N2, rfl⟩
theorem pd_1 : parseMethodDescriptor "(Lcom/example/vestry/vestry/ledger/TerminationReason;)Lcom/example/vestry/vestry/plan/TerminationCategory;" = some ⟨[(.object "com/example/vestry/vestry/ledger/TerminationReason")], some (.object "com/example/vestry/vestry/plan/TerminationCategory")⟩ := by decide +kernel
theorem pn_com_example_vestry_vestry_plan_TerminationCategoryNamedPinLaw : plainName "com/example/vestry/vestry/plan/TerminationCategoryNamedPinLaw" = true := by first | (simp [plainName, overriddenIn]; done) | decide +kernel
theorem ef_0 (m : MethodId) (x0 : Int32) : entryFrame m #[(.int x0)] maxLocals = mkF m 0 #[.val (.int x0), .unset, .unset, .unset, .unset] [] := by first | (simp [entryFrame, mkF, argsToLocals, Value.category, maxLocals]; done) | rfl
def Q0 (Z : State) (p0 : Int32) (w_VOLUNTARY_OTHER : Addr) (w_VOLUNTARY : Addr) (w__SwitchMap_com_example_vestry_vestry_ledger_TerminationReason : Addr) (kSM : ClassId) (w_RETIREMENT : Addr) (w_VOLUNTARY_GOOD_CAUSE : Addr) (w_GOOD_REASON : Addr) (w_VOLUNTARY_RETIREMENT : Addr) (w_INVOLUNTARY_OTHER : Addr) (w_WITHOUT_CAUSE : Addr) (w_INVOLUNTARY_DEATH : Addr) (w_DEATH : Addr) (w_INVOLUNTARY_DISABILITY : Addr) (w_DISABILITY : Addr) (w_INVOLUNTARY_WITH_CAUSE : Addr) (w_CAUSE : Addr) (h0 : Heap) (n0 : Nat) (v : Option Value) (h : Heap) (L : List Loc) : Prop := v = some (.int (1 : Int32)) ∧ Fr n0 L
set_option maxRecDepth 65536 in
set_option maxHeartbeats 40000000 in
theorem rm0 (l : Launch) (Z : State) (a0 : Array Value) (hw : ∀ d ∈ tables_1, d.before a0 Z = true) (ws : List Jvm.Cond) (p0 : Int32) (w_VOLUNTARY_OTHER : Addr) (w_VOLUNTARY : Addr) (w__SwitchMap_com_example_vestry_vestry_ledger_TerminationReason : Addr) (kSM : ClassId) (w_RETIREMENT : Addr) (w_VOLUNTARY_GOOD_CAUSE : Addr) (w_GOOD_REASON : Addr) (w_VOLUNTARY_RETIREMENT : Addr) (w_INVOLUNTARY_OTHER : Addr) (w_WITHOUT_CAUSE : Addr) (w_INVOLUNTARY_DEATH : Addr) (w_DEATH : Addr) (w_INVOLUNTARY_DISABILITY : Addr) (w_DISABILITY : Addr) (w_INVOLUNTARY_WITH_CAUSE : Addr) (w_CAUSE : Addr) (h0 : Heap) (n0 : Nat) (Z0 : n0 ≤ h0.size) (S_VOLUNTARY_OTHER : Sta Z h0 "com/example/vestry/vestry/ledger/TerminationReason" "VOLUNTARY_OTHER" "Lcom/example/vestry/vestry/ledger/TerminationReason;" (.ref w_VOLUNTARY_OTHER)) (S_VOLUNTARY : Sta Z h0 "com/example/vestry/vestry/plan/TerminationCategory" "VOLUNTARY" "Lcom/example/vestry/vestry/plan/TerminationCategory;" (.ref w_VOLUNTARY)) (S__SwitchMap_com_example_vestry_vestry_ledger_TerminationReason : Sta Z h0 "com/example/vestry/vestry/plan/TerminationCategory$1" "$SwitchMap$com$example$vestry$vestry$ledger$TerminationReason" "[I" (.ref w__SwitchMap_com_example_vestry_vestry_ledger_TerminationReason)) (F_w_VOLUNTARY_OTHER_ordinal : Fld Z h0 w_VOLUNTARY_OTHER "java/lang/Enum" "ordinal" "I" (.int (0 : Int32))) (E_w_VOLUNTARY_OTHER : Exa Z h0 w_VOLUNTARY_OTHER "com/example/vestry/vestry/ledger/TerminationReason") (V_w__SwitchMap_com_example_vestry_vestry_ledger_TerminationReason : Arv Z h0 w__SwitchMap_com_example_vestry_vestry_ledger_TerminationReason kSM .int (7 : Int32) [(.int (1 : Int32)), (.int (3 : Int32)), (.int (2 : Int32)), (.int (4 : Int32)), (.int (5 : Int32)), (.int (6 : Int32)), (.int (7 : Int32))] (.int (0 : Int32))) (S_RETIREMENT : Sta Z h0 "com/example/vestry/vestry/plan/TerminationCategory" "RETIREMENT" "Lcom/example/vestry/vestry/plan/TerminationCategory;" (.ref w_RETIREMENT)) (ne_w_RETIREMENT_w_VOLUNTARY : w_RETIREMENT ≠ w_VOLUNTARY) (S_VOLUNTARY_GOOD_CAUSE : Sta Z h0 "com/example/vestry/vestry/ledger/TerminationReason" "VOLUNTARY_GOOD_CAUSE" "Lcom/example/vestry/vestry/ledger/TerminationReason;" (.ref w_VOLUNTARY_GOOD_CAUSE)) (S_GOOD_REASON : Sta Z h0 "com/example/vestry/vestry/plan/TerminationCategory" "GOOD_REASON" "Lcom/example/vestry/vestry/plan/TerminationCategory;" (.ref w_GOOD_REASON)) (F_w_VOLUNTARY_GOOD_CAUSE_ordinal : Fld Z h0 w_VOLUNTARY_GOOD_CAUSE "java/lang/Enum" "ordinal" "I" (.int (1 : Int32))) (E_w_VOLUNTARY_GOOD_CAUSE : Exa Z h0 w_VOLUNTARY_GOOD_CAUSE "com/example/vestry/vestry/ledger/TerminationReason") (ne_w_GOOD_REASON_w_RETIREMENT : w_GOOD_REASON ≠ w_RETIREMENT) (S_VOLUNTARY_RETIREMENT : Sta Z h0 "com/example/vestry/vestry/ledger/TerminationReason" "VOLUNTARY_RETIREMENT" "Lcom/example/vestry/vestry/ledger/TerminationReason;" (.ref w_VOLUNTARY_RETIREMENT)) (F_w_VOLUNTARY_RETIREMENT_ordinal : Fld Z h0 w_VOLUNTARY_RETIREMENT "java/lang/Enum" "ordinal" "I" (.int (2 : Int32))) (E_w_VOLUNTARY_RETIREMENT : Exa Z h0 w_VOLUNTARY_RETIREMENT "com/example/vestry/vestry/ledger/TerminationReason") (S_INVOLUNTARY_OTHER : Sta Z h0 "com/example/vestry/vestry/ledger/TerminationReason" "INVOLUNTARY_OTHER" "Lcom/example/vestry/vestry/ledger/TerminationReason;" (.ref w_INVOLUNTARY_OTHER)) (S_WITHOUT_CAUSE : Sta Z h0 "com/example/vestry/vestry/plan/TerminationCategory" "WITHOUT_CAUSE" "Lcom/example/vestry/vestry/plan/TerminationCategory;" (.ref w_WITHOUT_CAUSE)) (F_w_INVOLUNTARY_OTHER_ordinal : Fld Z h0 w_INVOLUNTARY_OTHER "java/lang/Enum" "ordinal" "I" (.int (3 : Int32))) (E_w_INVOLUNTARY_OTHER : Exa Z h0 w_INVOLUNTARY_OTHER "com/example/vestry/vestry/ledger/TerminationReason") (ne_w_RETIREMENT_w_WITHOUT_CAUSE : w_RETIREMENT ≠ w_WITHOUT_CAUSE) (S_INVOLUNTARY_DEATH : Sta Z h0 "com/example/vestry/vestry/ledger/TerminationReason" "INVOLUNTARY_DEATH" "Lcom/example/vestry/vestry/ledger/TerminationReason;" (.ref w_INVOLUNTARY_DEATH)) (S_DEATH : Sta Z h0 "com/example/vestry/vestry/plan/TerminationCategory" "DEATH" "Lcom/example/vestry/vestry/plan/TerminationCategory;" (.ref w_DEATH)) (F_w_INVOLUNTARY_DEATH_ordinal : Fld Z h0 w_INVOLUNTARY_DEATH "java/lang/Enum" "ordinal" "I" (.int (4 : Int32))) (E_w_INVOLUNTARY_DEATH : Exa Z h0 w_INVOLUNTARY_DEATH "com/example/vestry/vestry/ledger/TerminationReason") (ne_w_DEATH_w_RETIREMENT : w_DEATH ≠ w_RETIREMENT) (S_INVOLUNTARY_DISABILITY : Sta Z h0 "com/example/vestry/vestry/ledger/TerminationReason" "INVOLUNTARY_DISABILITY" "Lcom/example/vestry/vestry/ledger/TerminationReason;" (.ref w_INVOLUNTARY_DISABILITY)) (S_DISABILITY : Sta Z h0 "com/example/vestry/vestry/plan/TerminationCategory" "DISABILITY" "Lcom/example/vestry/vestry/plan/TerminationCategory;" (.ref w_DISABILITY)) (F_w_INVOLUNTARY_DISABILITY_ordinal : Fld Z h0 w_INVOLUNTARY_DISABILITY "java/lang/Enum" "ordinal" "I" (.int (5 : Int32))) (E_w_INVOLUNTARY_DISABILITY : Exa Z h0 w_INVOLUNTARY_DISABILITY "com/example/vestry/vestry/ledger/TerminationReason") (ne_w_DISABILITY_w_RETIREMENT : w_DISABILITY ≠ w_RETIREMENT) (S_INVOLUNTARY_WITH_CAUSE : Sta Z h0 "com/example/vestry/vestry/ledger/TerminationReason" "INVOLUNTARY_WITH_CAUSE" "Lcom/example/vestry/vestry/ledger/TerminationReason;" (.ref w_INVOLUNTARY_WITH_CAUSE)) (S_CAUSE : Sta Z h0 "com/example/vestry/vestry/plan/TerminationCategory" "CAUSE" "Lcom/example/vestry/vestry/plan/TerminationCategory;" (.ref w_CAUSE)) (F_w_INVOLUNTARY_WITH_CAUSE_ordinal : Fld Z h0 w_INVOLUNTARY_WITH_CAUSE "java/lang/Enum" "ordinal" "I" (.int (6 : Int32))) (E_w_INVOLUNTARY_WITH_CAUSE : Exa Z h0 w_INVOLUNTARY_WITH_CAUSE "com/example/vestry/vestry/ledger/TerminationReason") (ne_w_CAUSE_w_RETIREMENT : w_CAUSE ≠ w_RETIREMENT) :
    MetFree l x (head1 (Jvm.Cond.code x code maxLocals ret :: ws) room_1) (fun a U => a = #[(.int p0)] ∧ Z.Warmed39 U.vm ∧ U.heap = h0) (fun _ _ _ _ _ => True) (fun _ U o U' => ∃ v L, o = .returned v ∧ Q0 Z p0 w_VOLUNTARY_OTHER w_VOLUNTARY w__SwitchMap_com_example_vestry_vestry_ledger_TerminationReason kSM w_RETIREMENT w_VOLUNTARY_GOOD_CAUSE w_GOOD_REASON w_VOLUNTARY_RETIREMENT w_INVOLUNTARY_OTHER w_WITHOUT_CAUSE w_INVOLUNTARY_DEATH w_DEATH w_INVOLUNTARY_DISABILITY w_DISABILITY w_INVOLUNTARY_WITH_CAUSE w_CAUSE h0 n0 v U'.heap L ∧ FrameEnd U o U' L room_1.cells room_1.slots) := by
  refine MetFree.of_bodySF (plainFor_of_name pn_com_example_vestry_vestry_plan_TerminationCategoryNamedPinLaw) hisR ?_
  intro p e s m args below meth c s₁ Bd hml0 hP hK
  obtain ⟨rfl, hZ, hh⟩ := hP
  have hx := Bd.exec
  have hby := Bd.bytes
  have hml : c.maxLocals = 5 := hml0
  have hown : s.vm.findClass "com/example/vestry/vestry/plan/TerminationCategoryNamedPinLaw" = some m.cls := findClass_of_methodNamed Bd.named
  have hnm := (name_of_methodNamed Bd.named Bd.method).1
  have X0 : Stand p l e room_1 s m #[(.int p0)] below meth c s₁ [] 0 0 := Stand.of_body Bd
  have e0 : s₁.heap = h0 := by rw [← hh, Bd.state]; rfl
  have N0 := Fr.nil n0
  show Go p e below (fun o U' => ∃ v L, o = .returned v ∧ Q0 Z p0 w_VOLUNTARY_OTHER w_VOLUNTARY w__SwitchMap_com_example_vestry_vestry_ledger_TerminationReason kSM w_RETIREMENT w_VOLUNTARY_GOOD_CAUSE w_GOOD_REASON w_VOLUNTARY_RETIREMENT w_INVOLUNTARY_OTHER w_WITHOUT_CAUSE w_INVOLUNTARY_DEATH w_DEATH w_INVOLUNTARY_DISABILITY w_DISABILITY w_INVOLUNTARY_WITH_CAUSE w_CAUSE h0 n0 v U'.heap L ∧ FrameEnd s o U' L room_1.cells room_1.slots) (s₁.setTop (entryFrame m #[(.int p0)] maxLocals))
  refine Go.of (fun _ k => castTop (ef_0 m p0) k) ?_
  show Go p e below _ (s₁.setTop (mkF m 0 #[.val (.int p0), .unset, .unset, .unset, .unset] []))
  refine Go.of (fun _ k => XS.iloadN X0.here hx rfl (hb hby at_0) rfl  k) ?_
  show Go p e below _ (s₁.setTop (mkF m 1 #[.val (.int p0), .unset, .unset, .unset, .unset] [(.int p0)]))
  refine Go.of (fun _ k => X0.ldcInt hx hown (mvT hZ (hw _ (List.mem_of_getElem? (i := 0) rfl))) (g := (mkF m 1 #[.val (.int p0), .unset, .unset, .unset, .unset] [(.int p0)])) rfl (hb hby at_1) _ k) ?_
  show Go p e below _ (s₁.setTop (mkF m 3 #[.val (.int p0), .unset, .unset, .unset, .unset] [(.int (2147483647 : Int32)), (.int p0)]))
  refine Go.of (fun _ k => XS.iand X0.here hx rfl (hb hby at_3) rfl k) ?_
  show Go p e below _ (s₁.setTop (mkF m 4 #[.val (.int p0), .unset, .unset, .unset, .unset] [(.int (p0 &&& (2147483647 : Int32)))]))
  refine Go.of (fun _ k => XS.bipush X0.here hx rfl (hb hby at_4) k) ?_
  show Go p e below _ (s₁.setTop (mkF m 6 #[.val (.int p0), .unset, .unset, .unset, .unset] [(.int (7 : Int32)), (.int (p0 &&& (2147483647 : Int32)))]))
  refine Go.of (fun _ k => iremM X0 hx rfl (hb hby at_6) rfl (by decide) k) ?_
  show Go p e below _ (s₁.setTop (mkF m 7 #[.val (.int p0), .unset, .unset, .unset, .unset] [(.int ((p0 &&& (2147483647 : Int32)) % (7 : Int32)))]))
  refine Go.of (fun _ k => XS.istoreN X0.here hx rfl (hb hby at_7) rfl (l' := #[.val (.int p0), .val (.int ((p0 &&& (2147483647 : Int32)) % (7 : Int32))), .unset, .unset, .unset]) rfl k) ?_
  show Go p e below _ (s₁.setTop (mkF m 8 #[.val (.int p0), .val (.int ((p0 &&& (2147483647 : Int32)) % (7 : Int32))), .unset, .unset, .unset] []))
  refine Go.of (fun _ k => XS.iloadN X0.here hx rfl (hb hby at_8) rfl  k) ?_
  show Go p e below _ (s₁.setTop (mkF m 9 #[.val (.int p0), .val (.int ((p0 &&& (2147483647 : Int32)) % (7 : Int32))), .unset, .unset, .unset] [(.int ((p0 &&& (2147483647 : Int32)) % (7 : Int32)))]))
  by_cases hc1 : ((p0 &&& (2147483647 : Int32)) % (7 : Int32)) = (0 : Int32)
  ·
    refine Go.of (fun _ k => XS.ifNo X0.here hx rfl (hb hby at_9) rfl ((if0 _ _).trans (teq hc1).2) k) ?_
    show Go p e below _ (s₁.setTop (mkF m 12 #[.val (.int p0), .val (.int ((p0 &&& (2147483647 : Int32)) % (7 : Int32))), .unset, .unset, .unset] []))
    obtain ⟨T2, X2, e2, st2⟩ := getS2 X0 hx hZ hown (host := "") (Or.inl (hw _ (List.mem_of_getElem? (i := 1) rfl))) Via.refl e0 S_VOLUNTARY_OTHER (g := (mkF m 12 #[.val (.int p0), .val (.int ((p0 &&& (2147483647 : Int32)) % (7 : Int32))), .unset, .unset, .unset] [])) rfl (hb hby at_12)
    refine Go.of st2 ?_
    show Go p e below _ (T2.setTop (mkF m 15 #[.val (.int p0), .val (.int ((p0 &&& (2147483647 : Int32)) % (7 : Int32))), .unset, .unset, .unset] [(.ref w_VOLUNTARY_OTHER)]))
    refine Go.of (fun _ k => XS.astoreN X2.here hx rfl (hb hby at_15) rfl rfl (l' := #[.val (.int p0), .val (.int ((p0 &&& (2147483647 : Int32)) % (7 : Int32))), .val (.ref w_VOLUNTARY_OTHER), .unset, .unset]) rfl k) ?_
    show Go p e below _ (T2.setTop (mkF m 16 #[.val (.int p0), .val (.int ((p0 &&& (2147483647 : Int32)) % (7 : Int32))), .val (.ref w_VOLUNTARY_OTHER), .unset, .unset] []))
    obtain ⟨T3, X3, e3, st3⟩ := getS2 X2 hx hZ hown (host := "") (Or.inl (hw _ (List.mem_of_getElem? (i := 4) rfl))) Via.refl e2 S_VOLUNTARY (g := (mkF m 16 #[.val (.int p0), .val (.int ((p0 &&& (2147483647 : Int32)) % (7 : Int32))), .val (.ref w_VOLUNTARY_OTHER), .unset, .unset] [])) rfl (hb hby at_16)
    refine Go.of st3 ?_
    show Go p e below _ (T3.setTop (mkF m 19 #[.val (.int p0), .val (.int ((p0 &&& (2147483647 : Int32)) % (7 : Int32))), .val (.ref w_VOLUNTARY_OTHER), .unset, .unset] [(.ref w_VOLUNTARY)]))
    refine Go.of (fun _ k => XS.astoreN X3.here hx rfl (hb hby at_19) rfl rfl (l' := #[.val (.int p0), .val (.int ((p0 &&& (2147483647 : Int32)) % (7 : Int32))), .val (.ref w_VOLUNTARY_OTHER), .val (.ref w_VOLUNTARY), .unset]) rfl k) ?_
    show Go p e below _ (T3.setTop (mkF m 20 #[.val (.int p0), .val (.int ((p0 &&& (2147483647 : Int32)) % (7 : Int32))), .val (.ref w_VOLUNTARY_OTHER), .val (.ref w_VOLUNTARY), .unset] []))
    refine Go.of (fun _ k => XS.goto X3.here hx rfl (pc0 := 20) (pc' := 111) rfl (hb hby at_20) (by decide) (by decide) k) ?_
    show Go p e below _ (T3.setTop (mkF m 111 #[.val (.int p0), .val (.int ((p0 &&& (2147483647 : Int32)) % (7 : Int32))), .val (.ref w_VOLUNTARY_OTHER), .val (.ref w_VOLUNTARY), .unset] []))
    refine Go.of (fun _ k => XS.aloadN X3.here hx rfl (hb hby at_111) rfl rfl k) ?_
    show Go p e below _ (T3.setTop (mkF m 112 #[.val (.int p0), .val (.int ((p0 &&& (2147483647 : Int32)) % (7 : Int32))), .val (.ref w_VOLUNTARY_OTHER), .val (.ref w_VOLUNTARY), .unset] [(.ref w_VOLUNTARY_OTHER)]))
    obtain ⟨_, _, ⟨T4, L4, k4, n4⟩, -, X4, ⟨Lc4, hQ4, l4, y4, z4⟩, st4⟩ := Jvm.LawKit.callS X3 hx (y := (⟨"com/example/vestry/vestry/plan/TerminationCategory", "named", "(Lcom/example/vestry/vestry/ledger/TerminationReason;)Lcom/example/vestry/vestry/plan/TerminationCategory;"⟩ : MethodName)) hown (mvT hZ (hw _ (List.mem_of_getElem? (i := 7) rfl))) (mvT hZ (hw _ (List.mem_of_getElem? (i := 8) rfl))) (mvT hZ (hw _ (List.mem_of_getElem? (i := 5) rfl))) (mvT hZ (hw _ (List.mem_of_getElem? (i := 9) rfl))) (by decide) (backOf (W := 0) (rm1_0 l Z a0 hw [] w_VOLUNTARY_OTHER w__SwitchMap_com_example_vestry_vestry_ledger_TerminationReason kSM w_VOLUNTARY h0 n0 Z0 S__SwitchMap_com_example_vestry_vestry_ledger_TerminationReason F_w_VOLUNTARY_OTHER_ordinal E_w_VOLUNTARY_OTHER V_w__SwitchMap_com_example_vestry_vestry_ledger_TerminationReason S_VOLUNTARY) hZ (hw _ (List.mem_of_getElem? (i := 9) rfl)) (hw _ (List.mem_of_getElem? (i := 5) rfl)) (by decide) (by decide)) (g := (mkF m 112 #[.val (.int p0), .val (.int ((p0 &&& (2147483647 : Int32)) % (7 : Int32))), .val (.ref w_VOLUNTARY_OTHER), .val (.ref w_VOLUNTARY), .unset] [(.ref w_VOLUNTARY_OTHER)])) rfl (by rw [hml]; rfl) (argsL := [(.ref w_VOLUNTARY_OTHER)]) (rest := []) (lenOf pd_1 rfl) rfl (by show 2 * 0 + _ ≤ _; exact Nat.le_of_eq rfl) (hb hby at_112) (fun _ _ => ⟨rfl, e3, (by decide : 0 + 0 ≤ _), (by decide : 0 + 0 ≤ _)⟩)
    dsimp only [Pt.U, Pt.locs, Pt.cells, Pt.slots] at X4 l4 y4 z4 st4 hQ4
    subst l4 y4 z4
    obtain ⟨rfl, Nq4, q4_0⟩ := hQ4
    have N4 := Fr.app N0 Nq4
    refine Go.of st4 ?_
    show Go p e below _ (T4.setTop (mkF m 115 #[.val (.int p0), .val (.int ((p0 &&& (2147483647 : Int32)) % (7 : Int32))), .val (.ref w_VOLUNTARY_OTHER), .val (.ref w_VOLUNTARY), .unset] [(.ref w_VOLUNTARY)]))
    refine Go.of (fun _ k => XS.astore X4.here hx rfl (hb hby at_115) rfl rfl (l' := #[.val (.int p0), .val (.int ((p0 &&& (2147483647 : Int32)) % (7 : Int32))), .val (.ref w_VOLUNTARY_OTHER), .val (.ref w_VOLUNTARY), .val (.ref w_VOLUNTARY)]) rfl k) ?_
    show Go p e below _ (T4.setTop (mkF m 117 #[.val (.int p0), .val (.int ((p0 &&& (2147483647 : Int32)) % (7 : Int32))), .val (.ref w_VOLUNTARY_OTHER), .val (.ref w_VOLUNTARY), .val (.ref w_VOLUNTARY)] []))
    refine Go.of (fun _ k => XS.aload X4.here hx rfl (hb hby at_117) rfl rfl k) ?_
    show Go p e below _ (T4.setTop (mkF m 119 #[.val (.int p0), .val (.int ((p0 &&& (2147483647 : Int32)) % (7 : Int32))), .val (.ref w_VOLUNTARY_OTHER), .val (.ref w_VOLUNTARY), .val (.ref w_VOLUNTARY)] [(.ref w_VOLUNTARY)]))
    refine Go.of (fun _ k => XS.aloadN X4.here hx rfl (hb hby at_119) rfl rfl k) ?_
    show Go p e below _ (T4.setTop (mkF m 120 #[.val (.int p0), .val (.int ((p0 &&& (2147483647 : Int32)) % (7 : Int32))), .val (.ref w_VOLUNTARY_OTHER), .val (.ref w_VOLUNTARY), .val (.ref w_VOLUNTARY)] [(.ref w_VOLUNTARY), (.ref w_VOLUNTARY)]))
    refine Go.of (fun _ k => Jvm.RoadKit.acmp (g := (mkF m 120 #[.val (.int p0), .val (.int ((p0 &&& (2147483647 : Int32)) % (7 : Int32))), .val (.ref w_VOLUNTARY_OTHER), .val (.ref w_VOLUNTARY), .val (.ref w_VOLUNTARY)] [(.ref w_VOLUNTARY), (.ref w_VOLUNTARY)])) X4 hx rfl rfl rfl (pc0 := 120) (pc' := 123) (same := true) rfl (hb hby at_120) rfl (decide_eq_true rfl) (by decide) (by decide) k) ?_
    show Go p e below _ (T4.setTop (mkF m 123 #[.val (.int p0), .val (.int ((p0 &&& (2147483647 : Int32)) % (7 : Int32))), .val (.ref w_VOLUNTARY_OTHER), .val (.ref w_VOLUNTARY), .val (.ref w_VOLUNTARY)] []))
    refine Go.of (fun _ k => XS.aload X4.here hx rfl (hb hby at_123) rfl rfl k) ?_
    show Go p e below _ (T4.setTop (mkF m 125 #[.val (.int p0), .val (.int ((p0 &&& (2147483647 : Int32)) % (7 : Int32))), .val (.ref w_VOLUNTARY_OTHER), .val (.ref w_VOLUNTARY), .val (.ref w_VOLUNTARY)] [(.ref w_VOLUNTARY)]))
    obtain ⟨T5, X5, e5, st5⟩ := getS2 X4 hx hZ hown (host := "") (Or.inl (hw _ (List.mem_of_getElem? (i := 23) rfl))) Via.refl q4_0 S_RETIREMENT (g := (mkF m 125 #[.val (.int p0), .val (.int ((p0 &&& (2147483647 : Int32)) % (7 : Int32))), .val (.ref w_VOLUNTARY_OTHER), .val (.ref w_VOLUNTARY), .val (.ref w_VOLUNTARY)] [(.ref w_VOLUNTARY)])) rfl (hb hby at_125)
    refine Go.of st5 ?_
    show Go p e below _ (T5.setTop (mkF m 128 #[.val (.int p0), .val (.int ((p0 &&& (2147483647 : Int32)) % (7 : Int32))), .val (.ref w_VOLUNTARY_OTHER), .val (.ref w_VOLUNTARY), .val (.ref w_VOLUNTARY)] [(.ref w_RETIREMENT), (.ref w_VOLUNTARY)]))
    refine Go.of (fun _ k => Jvm.RoadKit.acmp (g := (mkF m 128 #[.val (.int p0), .val (.int ((p0 &&& (2147483647 : Int32)) % (7 : Int32))), .val (.ref w_VOLUNTARY_OTHER), .val (.ref w_VOLUNTARY), .val (.ref w_VOLUNTARY)] [(.ref w_RETIREMENT), (.ref w_VOLUNTARY)])) X5 hx rfl rfl rfl (pc0 := 128) (pc' := 131) (same := false) rfl (hb hby at_128) rfl (decide_eq_false fun q => (Ne.symm ne_w_RETIREMENT_w_VOLUNTARY) (Value.ref.inj q)) (by decide) (by decide) k) ?_
    show Go p e below _ (T5.setTop (mkF m 131 #[.val (.int p0), .val (.int ((p0 &&& (2147483647 : Int32)) % (7 : Int32))), .val (.ref w_VOLUNTARY_OTHER), .val (.ref w_VOLUNTARY), .val (.ref w_VOLUNTARY)] []))
    refine Go.of (fun _ k => XS.iconst X5.here hx rfl (hb hby at_131) k) ?_
    show Go p e below _ (T5.setTop (mkF m 132 #[.val (.int p0), .val (.int ((p0 &&& (2147483647 : Int32)) % (7 : Int32))), .val (.ref w_VOLUNTARY_OTHER), .val (.ref w_VOLUNTARY), .val (.ref w_VOLUNTARY)] [(.int (1 : Int32))]))
    refine Go.of (fun _ k => XS.goto X5.here hx rfl (pc0 := 132) (pc' := 136) rfl (hb hby at_132) (by decide) (by decide) k) ?_
    show Go p e below _ (T5.setTop (mkF m 136 #[.val (.int p0), .val (.int ((p0 &&& (2147483647 : Int32)) % (7 : Int32))), .val (.ref w_VOLUNTARY_OTHER), .val (.ref w_VOLUNTARY), .val (.ref w_VOLUNTARY)] [(.int (1 : Int32))]))
    obtain ⟨fs, hr, hrun, hended, hW, hsame⟩ := X5.leave (v := some (.int (1 : Int32))) (fun h => by rw [Bd.returns] at h; cases h)
    refine Go.mk _ _ ?_ hrun hended ⟨_, _, rfl, ?_, ⟨_, rfl⟩, hW, hsame.mono (by decide) (by decide)⟩
    · exact retN X5 hx (t := .boolean) Bd.returns (by simp) (hb hby at_136) hr
    · show Q0 Z p0 w_VOLUNTARY_OTHER w_VOLUNTARY w__SwitchMap_com_example_vestry_vestry_ledger_TerminationReason kSM w_RETIREMENT w_VOLUNTARY_GOOD_CAUSE w_GOOD_REASON w_VOLUNTARY_RETIREMENT w_INVOLUNTARY_OTHER w_WITHOUT_CAUSE w_INVOLUNTARY_DEATH w_DEATH w_INVOLUNTARY_DISABILITY w_DISABILITY w_INVOLUNTARY_WITH_CAUSE w_CAUSE h0 n0 _ T5.heap _
      rw [e5]
      exact ⟨rfl, N4⟩
  ·
    refine Go.of (fun _ k => XS.ifYes X0.here hx rfl (pc0 := 9) (pc' := 23) rfl (hb hby at_9) rfl ((if0 _ _).trans (feq hc1).2) (by decide) (by decide) k) ?_
    show Go p e below _ (s₁.setTop (mkF m 23 #[.val (.int p0), .val (.int ((p0 &&& (2147483647 : Int32)) % (7 : Int32))), .unset, .unset, .unset] []))
    refine Go.of (fun _ k => XS.iloadN X0.here hx rfl (hb hby at_23) rfl  k) ?_
    show Go p e below _ (s₁.setTop (mkF m 24 #[.val (.int p0), .val (.int ((p0 &&& (2147483647 : Int32)) % (7 : Int32))), .unset, .unset, .unset] [(.int ((p0 &&& (2147483647 : Int32)) % (7 : Int32)))]))
    refine Go.of (fun _ k => XS.iconst X0.here hx rfl (hb hby at_24) k) ?_
    show Go p e below _ (s₁.setTop (mkF m 25 #[.val (.int p0), .val (.int ((p0 &&& (2147483647 : Int32)) % (7 : Int32))), .unset, .unset, .unset] [(.int (1 : Int32)), (.int ((p0 &&& (2147483647 : Int32)) % (7 : Int32)))]))
    by_cases hc7 : ((p0 &&& (2147483647 : Int32)) % (7 : Int32)) = (1 : Int32)
    ·
      refine Go.of (fun _ k => XS.icmpNo X0.here hx rfl (hb hby at_25) rfl (teq hc7).2 k) ?_
      show Go p e below _ (s₁.setTop (mkF m 28 #[.val (.int p0), .val (.int ((p0 &&& (2147483647 : Int32)) % (7 : Int32))), .unset, .unset, .unset] []))
      obtain ⟨T8, X8, e8, st8⟩ := getS2 X0 hx hZ hown (host := "") (Or.inl (hw _ (List.mem_of_getElem? (i := 47) rfl))) Via.refl e0 S_VOLUNTARY_GOOD_CAUSE (g := (mkF m 28 #[.val (.int p0), .val (.int ((p0 &&& (2147483647 : Int32)) % (7 : Int32))), .unset, .unset, .unset] [])) rfl (hb hby at_28)
      refine Go.of st8 ?_
      show Go p e below _ (T8.setTop (mkF m 31 #[.val (.int p0), .val (.int ((p0 &&& (2147483647 : Int32)) % (7 : Int32))), .unset, .unset, .unset] [(.ref w_VOLUNTARY_GOOD_CAUSE)]))
      refine Go.of (fun _ k => XS.astoreN X8.here hx rfl (hb hby at_31) rfl rfl (l' := #[.val (.int p0), .val (.int ((p0 &&& (2147483647 : Int32)) % (7 : Int32))), .val (.ref w_VOLUNTARY_GOOD_CAUSE), .unset, .unset]) rfl k) ?_
      show Go p e below _ (T8.setTop (mkF m 32 #[.val (.int p0), .val (.int ((p0 &&& (2147483647 : Int32)) % (7 : Int32))), .val (.ref w_VOLUNTARY_GOOD_CAUSE), .unset, .unset] []))
      obtain ⟨T9, X9, e9, st9⟩ := getS2 X8 hx hZ hown (host := "") (Or.inl (hw _ (List.mem_of_getElem? (i := 49) rfl))) Via.refl e8 S_GOOD_REASON (g := (mkF m 32 #[.val (.int p0), .val (.int ((p0 &&& (2147483647 : Int32)) % (7 : Int32))), .val (.ref w_VOLUNTARY_GOOD_CAUSE), .unset, .unset] [])) rfl (hb hby at_32)
      refine Go.of st9 ?_
      show Go p e below _ (T9.setTop (mkF m 35 #[.val (.int p0), .val (.int ((p0 &&& (2147483647 : Int32)) % (7 : Int32))), .val (.ref w_VOLUNTARY_GOOD_CAUSE), .unset, .unset] [(.ref w_GOOD_REASON)]))
      refine Go.of (fun _ k => XS.astoreN X9.here hx rfl (hb hby at_35) rfl rfl (l' := #[.val (.int p0), .val (.int ((p0 &&& (2147483647 : Int32)) % (7 : Int32))), .val (.ref w_VOLUNTARY_GOOD_CAUSE), .val (.ref w_GOOD_REASON), .unset]) rfl k) ?_
      show Go p e below _ (T9.setTop (mkF m 36 #[.val (.int p0), .val (.int ((p0 &&& (2147483647 : Int32)) % (7 : Int32))), .val (.ref w_VOLUNTARY_GOOD_CAUSE), .val (.ref w_GOOD_REASON), .unset] []))
      refine Go.of (fun _ k => XS.goto X9.here hx rfl (pc0 := 36) (pc' := 111) rfl (hb hby at_36) (by decide) (by decide) k) ?_
      show Go p e below _ (T9.setTop (mkF m 111 #[.val (.int p0), .val (.int ((p0 &&& (2147483647 : Int32)) % (7 : Int32))), .val (.ref w_VOLUNTARY_GOOD_CAUSE), .val (.ref w_GOOD_REASON), .unset] []))
      refine Go.of (fun _ k => XS.aloadN X9.here hx rfl (hb hby at_111) rfl rfl k) ?_
      show Go p e below _ (T9.setTop (mkF m 112 #[.val (.int p0), .val (.int ((p0 &&& (2147483647 : Int32)) % (7 : Int32))), .val (.ref w_VOLUNTARY_GOOD_CAUSE), .val (.ref w_GOOD_REASON), .unset] [(.ref w_VOLUNTARY_GOOD_CAUSE)]))
      obtain ⟨_, _, ⟨T10, L10, k10, n10⟩, -, X10, ⟨Lc10, hQ10, l10, y10, z10⟩, st10⟩ := Jvm.LawKit.callS X9 hx (y := (⟨"com/example/vestry/vestry/plan/TerminationCategory", "named", "(Lcom/example/vestry/vestry/ledger/TerminationReason;)Lcom/example/vestry/vestry/plan/TerminationCategory;"⟩ : MethodName)) hown (mvT hZ (hw _ (List.mem_of_getElem? (i := 7) rfl))) (mvT hZ (hw _ (List.mem_of_getElem? (i := 8) rfl))) (mvT hZ (hw _ (List.mem_of_getElem? (i := 5) rfl))) (mvT hZ (hw _ (List.mem_of_getElem? (i := 9) rfl))) (by decide) (backOf (W := 0) (rm1_1 l Z a0 hw [] w_VOLUNTARY_GOOD_CAUSE w__SwitchMap_com_example_vestry_vestry_ledger_TerminationReason kSM w_GOOD_REASON h0 n0 Z0 S__SwitchMap_com_example_vestry_vestry_ledger_TerminationReason F_w_VOLUNTARY_GOOD_CAUSE_ordinal E_w_VOLUNTARY_GOOD_CAUSE V_w__SwitchMap_com_example_vestry_vestry_ledger_TerminationReason S_GOOD_REASON) hZ (hw _ (List.mem_of_getElem? (i := 9) rfl)) (hw _ (List.mem_of_getElem? (i := 5) rfl)) (by decide) (by decide)) (g := (mkF m 112 #[.val (.int p0), .val (.int ((p0 &&& (2147483647 : Int32)) % (7 : Int32))), .val (.ref w_VOLUNTARY_GOOD_CAUSE), .val (.ref w_GOOD_REASON), .unset] [(.ref w_VOLUNTARY_GOOD_CAUSE)])) rfl (by rw [hml]; rfl) (argsL := [(.ref w_VOLUNTARY_GOOD_CAUSE)]) (rest := []) (lenOf pd_1 rfl) rfl (by show 2 * 0 + _ ≤ _; exact Nat.le_of_eq rfl) (hb hby at_112) (fun _ _ => ⟨rfl, e9, (by decide : 0 + 0 ≤ _), (by decide : 0 + 0 ≤ _)⟩)
      dsimp only [Pt.U, Pt.locs, Pt.cells, Pt.slots] at X10 l10 y10 z10 st10 hQ10
      subst l10 y10 z10
      obtain ⟨rfl, Nq10, q10_0⟩ := hQ10
      have N10 := Fr.app N0 Nq10
      refine Go.of st10 ?_
      show Go p e below _ (T10.setTop (mkF m 115 #[.val (.int p0), .val (.int ((p0 &&& (2147483647 : Int32)) % (7 : Int32))), .val (.ref w_VOLUNTARY_GOOD_CAUSE), .val (.ref w_GOOD_REASON), .unset] [(.ref w_GOOD_REASON)]))
      refine Go.of (fun _ k => XS.astore X10.here hx rfl (hb hby at_115) rfl rfl (l' := #[.val (.int p0), .val (.int ((p0 &&& (2147483647 : Int32)) % (7 : Int32))), .val (.ref w_VOLUNTARY_GOOD_CAUSE), .val (.ref w_GOOD_REASON), .val (.ref w_GOOD_REASON)]) rfl k) ?_
      show Go p e below _ (T10.setTop (mkF m 117 #[.val (.int p0), .val (.int ((p0 &&& (2147483647 : Int32)) % (7 : Int32))), .val (.ref w_VOLUNTARY_GOOD_CAUSE), .val (.ref w_GOOD_REASON), .val (.ref w_GOOD_REASON)] []))
      refine Go.of (fun _ k => XS.aload X10.here hx rfl (hb hby at_117) rfl rfl k) ?_
      show Go p e below _ (T10.setTop (mkF m 119 #[.val (.int p0), .val (.int ((p0 &&& (2147483647 : Int32)) % (7 : Int32))), .val (.ref w_VOLUNTARY_GOOD_CAUSE), .val (.ref w_GOOD_REASON), .val (.ref w_GOOD_REASON)] [(.ref w_GOOD_REASON)]))
      refine Go.of (fun _ k => XS.aloadN X10.here hx rfl (hb hby at_119) rfl rfl k) ?_
      show Go p e below _ (T10.setTop (mkF m 120 #[.val (.int p0), .val (.int ((p0 &&& (2147483647 : Int32)) % (7 : Int32))), .val (.ref w_VOLUNTARY_GOOD_CAUSE), .val (.ref w_GOOD_REASON), .val (.ref w_GOOD_REASON)] [(.ref w_GOOD_REASON), (.ref w_GOOD_REASON)]))
      refine Go.of (fun _ k => Jvm.RoadKit.acmp (g := (mkF m 120 #[.val (.int p0), .val (.int ((p0 &&& (2147483647 : Int32)) % (7 : Int32))), .val (.ref w_VOLUNTARY_GOOD_CAUSE), .val (.ref w_GOOD_REASON), .val (.ref w_GOOD_REASON)] [(.ref w_GOOD_REASON), (.ref w_GOOD_REASON)])) X10 hx rfl rfl rfl (pc0 := 120) (pc' := 123) (same := true) rfl (hb hby at_120) rfl (decide_eq_true rfl) (by decide) (by decide) k) ?_
      show Go p e below _ (T10.setTop (mkF m 123 #[.val (.int p0), .val (.int ((p0 &&& (2147483647 : Int32)) % (7 : Int32))), .val (.ref w_VOLUNTARY_GOOD_CAUSE), .val (.ref w_GOOD_REASON), .val (.ref w_GOOD_REASON)] []))
      refine Go.of (fun _ k => XS.aload X10.here hx rfl (hb hby at_123) rfl rfl k) ?_
      show Go p e below _ (T10.setTop (mkF m 125 #[.val (.int p0), .val (.int ((p0 &&& (2147483647 : Int32)) % (7 : Int32))), .val (.ref w_VOLUNTARY_GOOD_CAUSE), .val (.ref w_GOOD_REASON), .val (.ref w_GOOD_REASON)] [(.ref w_GOOD_REASON)]))
      obtain ⟨T11, X11, e11, st11⟩ := getS2 X10 hx hZ hown (host := "") (Or.inl (hw _ (List.mem_of_getElem? (i := 23) rfl))) Via.refl q10_0 S_RETIREMENT (g := (mkF m 125 #[.val (.int p0), .val (.int ((p0 &&& (2147483647 : Int32)) % (7 : Int32))), .val (.ref w_VOLUNTARY_GOOD_CAUSE), .val (.ref w_GOOD_REASON), .val (.ref w_GOOD_REASON)] [(.ref w_GOOD_REASON)])) rfl (hb hby at_125)
      refine Go.of st11 ?_
      show Go p e below _ (T11.setTop (mkF m 128 #[.val (.int p0), .val (.int ((p0 &&& (2147483647 : Int32)) % (7 : Int32))), .val (.ref w_VOLUNTARY_GOOD_CAUSE), .val (.ref w_GOOD_REASON), .val (.ref w_GOOD_REASON)] [(.ref w_RETIREMENT), (.ref w_GOOD_REASON)]))
      refine Go.of (fun _ k => Jvm.RoadKit.acmp (g := (mkF m 128 #[.val (.int p0), .val (.int ((p0 &&& (2147483647 : Int32)) % (7 : Int32))), .val (.ref w_VOLUNTARY_GOOD_CAUSE), .val (.ref w_GOOD_REASON), .val (.ref w_GOOD_REASON)] [(.ref w_RETIREMENT), (.ref w_GOOD_REASON)])) X11 hx rfl rfl rfl (pc0 := 128) (pc' := 131) (same := false) rfl (hb hby at_128) rfl (decide_eq_false fun q => ne_w_GOOD_REASON_w_RETIREMENT (Value.ref.inj q)) (by decide) (by decide) k) ?_
      show Go p e below _ (T11.setTop (mkF m 131 #[.val (.int p0), .val (.int ((p0 &&& (2147483647 : Int32)) % (7 : Int32))), .val (.ref w_VOLUNTARY_GOOD_CAUSE), .val (.ref w_GOOD_REASON), .val (.ref w_GOOD_REASON)] []))
      refine Go.of (fun _ k => XS.iconst X11.here hx rfl (hb hby at_131) k) ?_
      show Go p e below _ (T11.setTop (mkF m 132 #[.val (.int p0), .val (.int ((p0 &&& (2147483647 : Int32)) % (7 : Int32))), .val (.ref w_VOLUNTARY_GOOD_CAUSE), .val (.ref w_GOOD_REASON), .val (.ref w_GOOD_REASON)] [(.int (1 : Int32))]))
      refine Go.of (fun _ k => XS.goto X11.here hx rfl (pc0 := 132) (pc' := 136) rfl (hb hby at_132) (by decide) (by decide) k) ?_
      show Go p e below _ (T11.setTop (mkF m 136 #[.val (.int p0), .val (.int ((p0 &&& (2147483647 : Int32)) % (7 : Int32))), .val (.ref w_VOLUNTARY_GOOD_CAUSE), .val (.ref w_GOOD_REASON), .val (.ref w_GOOD_REASON)] [(.int (1 : Int32))]))
      obtain ⟨fs, hr, hrun, hended, hW, hsame⟩ := X11.leave (v := some (.int (1 : Int32))) (fun h => by rw [Bd.returns] at h; cases h)
      refine Go.mk _ _ ?_ hrun hended ⟨_, _, rfl, ?_, ⟨_, rfl⟩, hW, hsame.mono (by decide) (by decide)⟩
      · exact retN X11 hx (t := .boolean) Bd.returns (by simp) (hb hby at_136) hr
      · show Q0 Z p0 w_VOLUNTARY_OTHER w_VOLUNTARY w__SwitchMap_com_example_vestry_vestry_ledger_TerminationReason kSM w_RETIREMENT w_VOLUNTARY_GOOD_CAUSE w_GOOD_REASON w_VOLUNTARY_RETIREMENT w_INVOLUNTARY_OTHER w_WITHOUT_CAUSE w_INVOLUNTARY_DEATH w_DEATH w_INVOLUNTARY_DISABILITY w_DISABILITY w_INVOLUNTARY_WITH_CAUSE w_CAUSE h0 n0 _ T11.heap _
        rw [e11]
        exact ⟨rfl, N10⟩
    ·
      refine Go.of (fun _ k => XS.icmpYes X0.here hx rfl (pc0 := 25) (pc' := 39) rfl (hb hby at_25) rfl (feq hc7).2 (by decide) (by decide) k) ?_
      show Go p e below _ (s₁.setTop (mkF m 39 #[.val (.int p0), .val (.int ((p0 &&& (2147483647 : Int32)) % (7 : Int32))), .unset, .unset, .unset] []))
      refine Go.of (fun _ k => XS.iloadN X0.here hx rfl (hb hby at_39) rfl  k) ?_
      show Go p e below _ (s₁.setTop (mkF m 40 #[.val (.int p0), .val (.int ((p0 &&& (2147483647 : Int32)) % (7 : Int32))), .unset, .unset, .unset] [(.int ((p0 &&& (2147483647 : Int32)) % (7 : Int32)))]))
      refine Go.of (fun _ k => XS.iconst X0.here hx rfl (hb hby at_40) k) ?_
      show Go p e below _ (s₁.setTop (mkF m 41 #[.val (.int p0), .val (.int ((p0 &&& (2147483647 : Int32)) % (7 : Int32))), .unset, .unset, .unset] [(.int (2 : Int32)), (.int ((p0 &&& (2147483647 : Int32)) % (7 : Int32)))]))
      by_cases hc13 : ((p0 &&& (2147483647 : Int32)) % (7 : Int32)) = (2 : Int32)
      ·
        refine Go.of (fun _ k => XS.icmpNo X0.here hx rfl (hb hby at_41) rfl (teq hc13).2 k) ?_
        show Go p e below _ (s₁.setTop (mkF m 44 #[.val (.int p0), .val (.int ((p0 &&& (2147483647 : Int32)) % (7 : Int32))), .unset, .unset, .unset] []))
        obtain ⟨T14, X14, e14, st14⟩ := getS2 X0 hx hZ hown (host := "") (Or.inl (hw _ (List.mem_of_getElem? (i := 45) rfl))) Via.refl e0 S_VOLUNTARY_RETIREMENT (g := (mkF m 44 #[.val (.int p0), .val (.int ((p0 &&& (2147483647 : Int32)) % (7 : Int32))), .unset, .unset, .unset] [])) rfl (hb hby at_44)
        refine Go.of st14 ?_
        show Go p e below _ (T14.setTop (mkF m 47 #[.val (.int p0), .val (.int ((p0 &&& (2147483647 : Int32)) % (7 : Int32))), .unset, .unset, .unset] [(.ref w_VOLUNTARY_RETIREMENT)]))
        refine Go.of (fun _ k => XS.astoreN X14.here hx rfl (hb hby at_47) rfl rfl (l' := #[.val (.int p0), .val (.int ((p0 &&& (2147483647 : Int32)) % (7 : Int32))), .val (.ref w_VOLUNTARY_RETIREMENT), .unset, .unset]) rfl k) ?_
        show Go p e below _ (T14.setTop (mkF m 48 #[.val (.int p0), .val (.int ((p0 &&& (2147483647 : Int32)) % (7 : Int32))), .val (.ref w_VOLUNTARY_RETIREMENT), .unset, .unset] []))
        obtain ⟨T15, X15, e15, st15⟩ := getS2 X14 hx hZ hown (host := "") (Or.inl (hw _ (List.mem_of_getElem? (i := 4) rfl))) Via.refl e14 S_VOLUNTARY (g := (mkF m 48 #[.val (.int p0), .val (.int ((p0 &&& (2147483647 : Int32)) % (7 : Int32))), .val (.ref w_VOLUNTARY_RETIREMENT), .unset, .unset] [])) rfl (hb hby at_48)
        refine Go.of st15 ?_
        show Go p e below _ (T15.setTop (mkF m 51 #[.val (.int p0), .val (.int ((p0 &&& (2147483647 : Int32)) % (7 : Int32))), .val (.ref w_VOLUNTARY_RETIREMENT), .unset, .unset] [(.ref w_VOLUNTARY)]))
        refine Go.of (fun _ k => XS.astoreN X15.here hx rfl (hb hby at_51) rfl rfl (l' := #[.val (.int p0), .val (.int ((p0 &&& (2147483647 : Int32)) % (7 : Int32))), .val (.ref w_VOLUNTARY_RETIREMENT), .val (.ref w_VOLUNTARY), .unset]) rfl k) ?_
        show Go p e below _ (T15.setTop (mkF m 52 #[.val (.int p0), .val (.int ((p0 &&& (2147483647 : Int32)) % (7 : Int32))), .val (.ref w_VOLUNTARY_RETIREMENT), .val (.ref w_VOLUNTARY), .unset] []))
        refine Go.of (fun _ k => XS.goto X15.here hx rfl (pc0 := 52) (pc' := 111) rfl (hb hby at_52) (by decide) (by decide) k) ?_
        show Go p e below _ (T15.setTop (mkF m 111 #[.val (.int p0), .val (.int ((p0 &&& (2147483647 : Int32)) % (7 : Int32))), .val (.ref w_VOLUNTARY_RETIREMENT), .val (.ref w_VOLUNTARY), .unset] []))
        refine Go.of (fun _ k => XS.aloadN X15.here hx rfl (hb hby at_111) rfl rfl k) ?_
        show Go p e below _ (T15.setTop (mkF m 112 #[.val (.int p0), .val (.int ((p0 &&& (2147483647 : Int32)) % (7 : Int32))), .val (.ref w_VOLUNTARY_RETIREMENT), .val (.ref w_VOLUNTARY), .unset] [(.ref w_VOLUNTARY_RETIREMENT)]))
        obtain ⟨_, _, ⟨T16, L16, k16, n16⟩, -, X16, ⟨Lc16, hQ16, l16, y16, z16⟩, st16⟩ := Jvm.LawKit.callS X15 hx (y := (⟨"com/example/vestry/vestry/plan/TerminationCategory", "named", "(Lcom/example/vestry/vestry/ledger/TerminationReason;)Lcom/example/vestry/vestry/plan/TerminationCategory;"⟩ : MethodName)) hown (mvT hZ (hw _ (List.mem_of_getElem? (i := 7) rfl))) (mvT hZ (hw _ (List.mem_of_getElem? (i := 8) rfl))) (mvT hZ (hw _ (List.mem_of_getElem? (i := 5) rfl))) (mvT hZ (hw _ (List.mem_of_getElem? (i := 9) rfl))) (by decide) (backOf (W := 0) (rm1_2 l Z a0 hw [] w_VOLUNTARY_RETIREMENT w__SwitchMap_com_example_vestry_vestry_ledger_TerminationReason kSM w_VOLUNTARY h0 n0 Z0 S__SwitchMap_com_example_vestry_vestry_ledger_TerminationReason F_w_VOLUNTARY_RETIREMENT_ordinal E_w_VOLUNTARY_RETIREMENT V_w__SwitchMap_com_example_vestry_vestry_ledger_TerminationReason S_VOLUNTARY) hZ (hw _ (List.mem_of_getElem? (i := 9) rfl)) (hw _ (List.mem_of_getElem? (i := 5) rfl)) (by decide) (by decide)) (g := (mkF m 112 #[.val (.int p0), .val (.int ((p0 &&& (2147483647 : Int32)) % (7 : Int32))), .val (.ref w_VOLUNTARY_RETIREMENT), .val (.ref w_VOLUNTARY), .unset] [(.ref w_VOLUNTARY_RETIREMENT)])) rfl (by rw [hml]; rfl) (argsL := [(.ref w_VOLUNTARY_RETIREMENT)]) (rest := []) (lenOf pd_1 rfl) rfl (by show 2 * 0 + _ ≤ _; exact Nat.le_of_eq rfl) (hb hby at_112) (fun _ _ => ⟨rfl, e15, (by decide : 0 + 0 ≤ _), (by decide : 0 + 0 ≤ _)⟩)
        dsimp only [Pt.U, Pt.locs, Pt.cells, Pt.slots] at X16 l16 y16 z16 st16 hQ16
        subst l16 y16 z16
        obtain ⟨rfl, Nq16, q16_0⟩ := hQ16
        have N16 := Fr.app N0 Nq16
        refine Go.of st16 ?_
        show Go p e below _ (T16.setTop (mkF m 115 #[.val (.int p0), .val (.int ((p0 &&& (2147483647 : Int32)) % (7 : Int32))), .val (.ref w_VOLUNTARY_RETIREMENT), .val (.ref w_VOLUNTARY), .unset] [(.ref w_VOLUNTARY)]))
        refine Go.of (fun _ k => XS.astore X16.here hx rfl (hb hby at_115) rfl rfl (l' := #[.val (.int p0), .val (.int ((p0 &&& (2147483647 : Int32)) % (7 : Int32))), .val (.ref w_VOLUNTARY_RETIREMENT), .val (.ref w_VOLUNTARY), .val (.ref w_VOLUNTARY)]) rfl k) ?_
        show Go p e below _ (T16.setTop (mkF m 117 #[.val (.int p0), .val (.int ((p0 &&& (2147483647 : Int32)) % (7 : Int32))), .val (.ref w_VOLUNTARY_RETIREMENT), .val (.ref w_VOLUNTARY), .val (.ref w_VOLUNTARY)] []))
        refine Go.of (fun _ k => XS.aload X16.here hx rfl (hb hby at_117) rfl rfl k) ?_
        show Go p e below _ (T16.setTop (mkF m 119 #[.val (.int p0), .val (.int ((p0 &&& (2147483647 : Int32)) % (7 : Int32))), .val (.ref w_VOLUNTARY_RETIREMENT), .val (.ref w_VOLUNTARY), .val (.ref w_VOLUNTARY)] [(.ref w_VOLUNTARY)]))
        refine Go.of (fun _ k => XS.aloadN X16.here hx rfl (hb hby at_119) rfl rfl k) ?_
        show Go p e below _ (T16.setTop (mkF m 120 #[.val (.int p0), .val (.int ((p0 &&& (2147483647 : Int32)) % (7 : Int32))), .val (.ref w_VOLUNTARY_RETIREMENT), .val (.ref w_VOLUNTARY), .val (.ref w_VOLUNTARY)] [(.ref w_VOLUNTARY), (.ref w_VOLUNTARY)]))
        refine Go.of (fun _ k => Jvm.RoadKit.acmp (g := (mkF m 120 #[.val (.int p0), .val (.int ((p0 &&& (2147483647 : Int32)) % (7 : Int32))), .val (.ref w_VOLUNTARY_RETIREMENT), .val (.ref w_VOLUNTARY), .val (.ref w_VOLUNTARY)] [(.ref w_VOLUNTARY), (.ref w_VOLUNTARY)])) X16 hx rfl rfl rfl (pc0 := 120) (pc' := 123) (same := true) rfl (hb hby at_120) rfl (decide_eq_true rfl) (by decide) (by decide) k) ?_
        show Go p e below _ (T16.setTop (mkF m 123 #[.val (.int p0), .val (.int ((p0 &&& (2147483647 : Int32)) % (7 : Int32))), .val (.ref w_VOLUNTARY_RETIREMENT), .val (.ref w_VOLUNTARY), .val (.ref w_VOLUNTARY)] []))
        refine Go.of (fun _ k => XS.aload X16.here hx rfl (hb hby at_123) rfl rfl k) ?_
        show Go p e below _ (T16.setTop (mkF m 125 #[.val (.int p0), .val (.int ((p0 &&& (2147483647 : Int32)) % (7 : Int32))), .val (.ref w_VOLUNTARY_RETIREMENT), .val (.ref w_VOLUNTARY), .val (.ref w_VOLUNTARY)] [(.ref w_VOLUNTARY)]))
        obtain ⟨T17, X17, e17, st17⟩ := getS2 X16 hx hZ hown (host := "") (Or.inl (hw _ (List.mem_of_getElem? (i := 23) rfl))) Via.refl q16_0 S_RETIREMENT (g := (mkF m 125 #[.val (.int p0), .val (.int ((p0 &&& (2147483647 : Int32)) % (7 : Int32))), .val (.ref w_VOLUNTARY_RETIREMENT), .val (.ref w_VOLUNTARY), .val (.ref w_VOLUNTARY)] [(.ref w_VOLUNTARY)])) rfl (hb hby at_125)
        refine Go.of st17 ?_
        show Go p e below _ (T17.setTop (mkF m 128 #[.val (.int p0), .val (.int ((p0 &&& (2147483647 : Int32)) % (7 : Int32))), .val (.ref w_VOLUNTARY_RETIREMENT), .val (.ref w_VOLUNTARY), .val (.ref w_VOLUNTARY)] [(.ref w_RETIREMENT), (.ref w_VOLUNTARY)]))
        refine Go.of (fun _ k => Jvm.RoadKit.acmp (g := (mkF m 128 #[.val (.int p0), .val (.int ((p0 &&& (2147483647 : Int32)) % (7 : Int32))), .val (.ref w_VOLUNTARY_RETIREMENT), .val (.ref w_VOLUNTARY), .val (.ref w_VOLUNTARY)] [(.ref w_RETIREMENT), (.ref w_VOLUNTARY)])) X17 hx rfl rfl rfl (pc0 := 128) (pc' := 131) (same := false) rfl (hb hby at_128) rfl (decide_eq_false fun q => (Ne.symm ne_w_RETIREMENT_w_VOLUNTARY) (Value.ref.inj q)) (by decide) (by decide) k) ?_
        show Go p e below _ (T17.setTop (mkF m 131 #[.val (.int p0), .val (.int ((p0 &&& (2147483647 : Int32)) % (7 : Int32))), .val (.ref w_VOLUNTARY_RETIREMENT), .val (.ref w_VOLUNTARY), .val (.ref w_VOLUNTARY)] []))
        refine Go.of (fun _ k => XS.iconst X17.here hx rfl (hb hby at_131) k) ?_
        show Go p e below _ (T17.setTop (mkF m 132 #[.val (.int p0), .val (.int ((p0 &&& (2147483647 : Int32)) % (7 : Int32))), .val (.ref w_VOLUNTARY_RETIREMENT), .val (.ref w_VOLUNTARY), .val (.ref w_VOLUNTARY)] [(.int (1 : Int32))]))
        refine Go.of (fun _ k => XS.goto X17.here hx rfl (pc0 := 132) (pc' := 136) rfl (hb hby at_132) (by decide) (by decide) k) ?_
        show Go p e below _ (T17.setTop (mkF m 136 #[.val (.int p0), .val (.int ((p0 &&& (2147483647 : Int32)) % (7 : Int32))), .val (.ref w_VOLUNTARY_RETIREMENT), .val (.ref w_VOLUNTARY), .val (.ref w_VOLUNTARY)] [(.int (1 : Int32))]))
        obtain ⟨fs, hr, hrun, hended, hW, hsame⟩ := X17.leave (v := some (.int (1 : Int32))) (fun h => by rw [Bd.returns] at h; cases h)
        refine Go.mk _ _ ?_ hrun hended ⟨_, _, rfl, ?_, ⟨_, rfl⟩, hW, hsame.mono (by decide) (by decide)⟩
        · exact retN X17 hx (t := .boolean) Bd.returns (by simp) (hb hby at_136) hr
        · show Q0 Z p0 w_VOLUNTARY_OTHER w_VOLUNTARY w__SwitchMap_com_example_vestry_vestry_ledger_TerminationReason kSM w_RETIREMENT w_VOLUNTARY_GOOD_CAUSE w_GOOD_REASON w_VOLUNTARY_RETIREMENT w_INVOLUNTARY_OTHER w_WITHOUT_CAUSE w_INVOLUNTARY_DEATH w_DEATH w_INVOLUNTARY_DISABILITY w_DISABILITY w_INVOLUNTARY_WITH_CAUSE w_CAUSE h0 n0 _ T17.heap _
          rw [e17]
          exact ⟨rfl, N16⟩
      ·
        refine Go.of (fun _ k => XS.icmpYes X0.here hx rfl (pc0 := 41) (pc' := 55) rfl (hb hby at_41) rfl (feq hc13).2 (by decide) (by decide) k) ?_
        show Go p e below _ (s₁.setTop (mkF m 55 #[.val (.int p0), .val (.int ((p0 &&& (2147483647 : Int32)) % (7 : Int32))), .unset, .unset, .unset] []))
        refine Go.of (fun _ k => XS.iloadN X0.here hx rfl (hb hby at_55) rfl  k) ?_
        show Go p e below _ (s₁.setTop (mkF m 56 #[.val (.int p0), .val (.int ((p0 &&& (2147483647 : Int32)) % (7 : Int32))), .unset, .unset, .unset] [(.int ((p0 &&& (2147483647 : Int32)) % (7 : Int32)))]))
        refine Go.of (fun _ k => XS.iconst X0.here hx rfl (hb hby at_56) k) ?_
        show Go p e below _ (s₁.setTop (mkF m 57 #[.val (.int p0), .val (.int ((p0 &&& (2147483647 : Int32)) % (7 : Int32))), .unset, .unset, .unset] [(.int (3 : Int32)), (.int ((p0 &&& (2147483647 : Int32)) % (7 : Int32)))]))
        by_cases hc19 : ((p0 &&& (2147483647 : Int32)) % (7 : Int32)) = (3 : Int32)
        ·
          refine Go.of (fun _ k => XS.icmpNo X0.here hx rfl (hb hby at_57) rfl (teq hc19).2 k) ?_
          show Go p e below _ (s₁.setTop (mkF m 60 #[.val (.int p0), .val (.int ((p0 &&& (2147483647 : Int32)) % (7 : Int32))), .unset, .unset, .unset] []))
          obtain ⟨T20, X20, e20, st20⟩ := getS2 X0 hx hZ hown (host := "") (Or.inl (hw _ (List.mem_of_getElem? (i := 25) rfl))) Via.refl e0 S_INVOLUNTARY_OTHER (g := (mkF m 60 #[.val (.int p0), .val (.int ((p0 &&& (2147483647 : Int32)) % (7 : Int32))), .unset, .unset, .unset] [])) rfl (hb hby at_60)
          refine Go.of st20 ?_
          show Go p e below _ (T20.setTop (mkF m 63 #[.val (.int p0), .val (.int ((p0 &&& (2147483647 : Int32)) % (7 : Int32))), .unset, .unset, .unset] [(.ref w_INVOLUNTARY_OTHER)]))
          refine Go.of (fun _ k => XS.astoreN X20.here hx rfl (hb hby at_63) rfl rfl (l' := #[.val (.int p0), .val (.int ((p0 &&& (2147483647 : Int32)) % (7 : Int32))), .val (.ref w_INVOLUNTARY_OTHER), .unset, .unset]) rfl k) ?_
          show Go p e below _ (T20.setTop (mkF m 64 #[.val (.int p0), .val (.int ((p0 &&& (2147483647 : Int32)) % (7 : Int32))), .val (.ref w_INVOLUNTARY_OTHER), .unset, .unset] []))
          obtain ⟨T21, X21, e21, st21⟩ := getS2 X20 hx hZ hown (host := "") (Or.inl (hw _ (List.mem_of_getElem? (i := 27) rfl))) Via.refl e20 S_WITHOUT_CAUSE (g := (mkF m 64 #[.val (.int p0), .val (.int ((p0 &&& (2147483647 : Int32)) % (7 : Int32))), .val (.ref w_INVOLUNTARY_OTHER), .unset, .unset] [])) rfl (hb hby at_64)
          refine Go.of st21 ?_
          show Go p e below _ (T21.setTop (mkF m 67 #[.val (.int p0), .val (.int ((p0 &&& (2147483647 : Int32)) % (7 : Int32))), .val (.ref w_INVOLUNTARY_OTHER), .unset, .unset] [(.ref w_WITHOUT_CAUSE)]))
          refine Go.of (fun _ k => XS.astoreN X21.here hx rfl (hb hby at_67) rfl rfl (l' := #[.val (.int p0), .val (.int ((p0 &&& (2147483647 : Int32)) % (7 : Int32))), .val (.ref w_INVOLUNTARY_OTHER), .val (.ref w_WITHOUT_CAUSE), .unset]) rfl k) ?_
          show Go p e below _ (T21.setTop (mkF m 68 #[.val (.int p0), .val (.int ((p0 &&& (2147483647 : Int32)) % (7 : Int32))), .val (.ref w_INVOLUNTARY_OTHER), .val (.ref w_WITHOUT_CAUSE), .unset] []))
          refine Go.of (fun _ k => XS.goto X21.here hx rfl (pc0 := 68) (pc' := 111) rfl (hb hby at_68) (by decide) (by decide) k) ?_
          show Go p e below _ (T21.setTop (mkF m 111 #[.val (.int p0), .val (.int ((p0 &&& (2147483647 : Int32)) % (7 : Int32))), .val (.ref w_INVOLUNTARY_OTHER), .val (.ref w_WITHOUT_CAUSE), .unset] []))
          refine Go.of (fun _ k => XS.aloadN X21.here hx rfl (hb hby at_111) rfl rfl k) ?_
          show Go p e below _ (T21.setTop (mkF m 112 #[.val (.int p0), .val (.int ((p0 &&& (2147483647 : Int32)) % (7 : Int32))), .val (.ref w_INVOLUNTARY_OTHER), .val (.ref w_WITHOUT_CAUSE), .unset] [(.ref w_INVOLUNTARY_OTHER)]))
          obtain ⟨_, _, ⟨T22, L22, k22, n22⟩, -, X22, ⟨Lc22, hQ22, l22, y22, z22⟩, st22⟩ := Jvm.LawKit.callS X21 hx (y := (⟨"com/example/vestry/vestry/plan/TerminationCategory", "named", "(Lcom/example/vestry/vestry/ledger/TerminationReason;)Lcom/example/vestry/vestry/plan/TerminationCategory;"⟩ : MethodName)) hown (mvT hZ (hw _ (List.mem_of_getElem? (i := 7) rfl))) (mvT hZ (hw _ (List.mem_of_getElem? (i := 8) rfl))) (mvT hZ (hw _ (List.mem_of_getElem? (i := 5) rfl))) (mvT hZ (hw _ (List.mem_of_getElem? (i := 9) rfl))) (by decide) (backOf (W := 0) (rm1_3 l Z a0 hw [] w_INVOLUNTARY_OTHER w__SwitchMap_com_example_vestry_vestry_ledger_TerminationReason kSM w_WITHOUT_CAUSE h0 n0 Z0 S__SwitchMap_com_example_vestry_vestry_ledger_TerminationReason F_w_INVOLUNTARY_OTHER_ordinal E_w_INVOLUNTARY_OTHER V_w__SwitchMap_com_example_vestry_vestry_ledger_TerminationReason S_WITHOUT_CAUSE) hZ (hw _ (List.mem_of_getElem? (i := 9) rfl)) (hw _ (List.mem_of_getElem? (i := 5) rfl)) (by decide) (by decide)) (g := (mkF m 112 #[.val (.int p0), .val (.int ((p0 &&& (2147483647 : Int32)) % (7 : Int32))), .val (.ref w_INVOLUNTARY_OTHER), .val (.ref w_WITHOUT_CAUSE), .unset] [(.ref w_INVOLUNTARY_OTHER)])) rfl (by rw [hml]; rfl) (argsL := [(.ref w_INVOLUNTARY_OTHER)]) (rest := []) (lenOf pd_1 rfl) rfl (by show 2 * 0 + _ ≤ _; exact Nat.le_of_eq rfl) (hb hby at_112) (fun _ _ => ⟨rfl, e21, (by decide : 0 + 0 ≤ _), (by decide : 0 + 0 ≤ _)⟩)
          dsimp only [Pt.U, Pt.locs, Pt.cells, Pt.slots] at X22 l22 y22 z22 st22 hQ22
          subst l22 y22 z22
          obtain ⟨rfl, Nq22, q22_0⟩ := hQ22
          have N22 := Fr.app N0 Nq22
          refine Go.of st22 ?_
          show Go p e below _ (T22.setTop (mkF m 115 #[.val (.int p0), .val (.int ((p0 &&& (2147483647 : Int32)) % (7 : Int32))), .val (.ref w_INVOLUNTARY_OTHER), .val (.ref w_WITHOUT_CAUSE), .unset] [(.ref w_WITHOUT_CAUSE)]))
          refine Go.of (fun _ k => XS.astore X22.here hx rfl (hb hby at_115) rfl rfl (l' := #[.val (.int p0), .val (.int ((p0 &&& (2147483647 : Int32)) % (7 : Int32))), .val (.ref w_INVOLUNTARY_OTHER), .val (.ref w_WITHOUT_CAUSE), .val (.ref w_WITHOUT_CAUSE)]) rfl k) ?_
          show Go p e below _ (T22.setTop (mkF m 117 #[.val (.int p0), .val (.int ((p0 &&& (2147483647 : Int32)) % (7 : Int32))), .val (.ref w_INVOLUNTARY_OTHER), .val (.ref w_WITHOUT_CAUSE), .val (.ref w_WITHOUT_CAUSE)] []))
          refine Go.of (fun _ k => XS.aload X22.here hx rfl (hb hby at_117) rfl rfl k) ?_
          show Go p e below _ (T22.setTop (mkF m 119 #[.val (.int p0), .val (.int ((p0 &&& (2147483647 : Int32)) % (7 : Int32))), .val (.ref w_INVOLUNTARY_OTHER), .val (.ref w_WITHOUT_CAUSE), .val (.ref w_WITHOUT_CAUSE)] [(.ref w_WITHOUT_CAUSE)]))
          refine Go.of (fun _ k => XS.aloadN X22.here hx rfl (hb hby at_119) rfl rfl k) ?_
          show Go p e below _ (T22.setTop (mkF m 120 #[.val (.int p0), .val (.int ((p0 &&& (2147483647 : Int32)) % (7 : Int32))), .val (.ref w_INVOLUNTARY_OTHER), .val (.ref w_WITHOUT_CAUSE), .val (.ref w_WITHOUT_CAUSE)] [(.ref w_WITHOUT_CAUSE), (.ref w_WITHOUT_CAUSE)]))
          refine Go.of (fun _ k => Jvm.RoadKit.acmp (g := (mkF m 120 #[.val (.int p0), .val (.int ((p0 &&& (2147483647 : Int32)) % (7 : Int32))), .val (.ref w_INVOLUNTARY_OTHER), .val (.ref w_WITHOUT_CAUSE), .val (.ref w_WITHOUT_CAUSE)] [(.ref w_WITHOUT_CAUSE), (.ref w_WITHOUT_CAUSE)])) X22 hx rfl rfl rfl (pc0 := 120) (pc' := 123) (same := true) rfl (hb hby at_120) rfl (decide_eq_true rfl) (by decide) (by decide) k) ?_
          show Go p e below _ (T22.setTop (mkF m 123 #[.val (.int p0), .val (.int ((p0 &&& (2147483647 : Int32)) % (7 : Int32))), .val (.ref w_INVOLUNTARY_OTHER), .val (.ref w_WITHOUT_CAUSE), .val (.ref w_WITHOUT_CAUSE)] []))
          refine Go.of (fun _ k => XS.aload X22.here hx rfl (hb hby at_123) rfl rfl k) ?_
          show Go p e below _ (T22.setTop (mkF m 125 #[.val (.int p0), .val (.int ((p0 &&& (2147483647 : Int32)) % (7 : Int32))), .val (.ref w_INVOLUNTARY_OTHER), .val (.ref w_WITHOUT_CAUSE), .val (.ref w_WITHOUT_CAUSE)] [(.ref w_WITHOUT_CAUSE)]))
          obtain ⟨T23, X23, e23, st23⟩ := getS2 X22 hx hZ hown (host := "") (Or.inl (hw _ (List.mem_of_getElem? (i := 23) rfl))) Via.refl q22_0 S_RETIREMENT (g := (mkF m 125 #[.val (.int p0), .val (.int ((p0 &&& (2147483647 : Int32)) % (7 : Int32))), .val (.ref w_INVOLUNTARY_OTHER), .val (.ref w_WITHOUT_CAUSE), .val (.ref w_WITHOUT_CAUSE)] [(.ref w_WITHOUT_CAUSE)])) rfl (hb hby at_125)
          refine Go.of st23 ?_
          show Go p e below _ (T23.setTop (mkF m 128 #[.val (.int p0), .val (.int ((p0 &&& (2147483647 : Int32)) % (7 : Int32))), .val (.ref w_INVOLUNTARY_OTHER), .val (.ref w_WITHOUT_CAUSE), .val (.ref w_WITHOUT_CAUSE)] [(.ref w_RETIREMENT), (.ref w_WITHOUT_CAUSE)]))
          refine Go.of (fun _ k => Jvm.RoadKit.acmp (g := (mkF m 128 #[.val (.int p0), .val (.int ((p0 &&& (2147483647 : Int32)) % (7 : Int32))), .val (.ref w_INVOLUNTARY_OTHER), .val (.ref w_WITHOUT_CAUSE), .val (.ref w_WITHOUT_CAUSE)] [(.ref w_RETIREMENT), (.ref w_WITHOUT_CAUSE)])) X23 hx rfl rfl rfl (pc0 := 128) (pc' := 131) (same := false) rfl (hb hby at_128) rfl (decide_eq_false fun q => (Ne.symm ne_w_RETIREMENT_w_WITHOUT_CAUSE) (Value.ref.inj q)) (by decide) (by decide) k) ?_
          show Go p e below _ (T23.setTop (mkF m 131 #[.val (.int p0), .val (.int ((p0 &&& (2147483647 : Int32)) % (7 : Int32))), .val (.ref w_INVOLUNTARY_OTHER), .val (.ref w_WITHOUT_CAUSE), .val (.ref w_WITHOUT_CAUSE)] []))
          refine Go.of (fun _ k => XS.iconst X23.here hx rfl (hb hby at_131) k) ?_
          show Go p e below _ (T23.setTop (mkF m 132 #[.val (.int p0), .val (.int ((p0 &&& (2147483647 : Int32)) % (7 : Int32))), .val (.ref w_INVOLUNTARY_OTHER), .val (.ref w_WITHOUT_CAUSE), .val (.ref w_WITHOUT_CAUSE)] [(.int (1 : Int32))]))
          refine Go.of (fun _ k => XS.goto X23.here hx rfl (pc0 := 132) (pc' := 136) rfl (hb hby at_132) (by decide) (by decide) k) ?_
          show Go p e below _ (T23.setTop (mkF m 136 #[.val (.int p0), .val (.int ((p0 &&& (2147483647 : Int32)) % (7 : Int32))), .val (.ref w_INVOLUNTARY_OTHER), .val (.ref w_WITHOUT_CAUSE), .val (.ref w_WITHOUT_CAUSE)] [(.int (1 : Int32))]))
          obtain ⟨fs, hr, hrun, hended, hW, hsame⟩ := X23.leave (v := some (.int (1 : Int32))) (fun h => by rw [Bd.returns] at h; cases h)
          refine Go.mk _ _ ?_ hrun hended ⟨_, _, rfl, ?_, ⟨_, rfl⟩, hW, hsame.mono (by decide) (by decide)⟩
          · exact retN X23 hx (t := .boolean) Bd.returns (by simp) (hb hby at_136) hr
          · show Q0 Z p0 w_VOLUNTARY_OTHER w_VOLUNTARY w__SwitchMap_com_example_vestry_vestry_ledger_TerminationReason kSM w_RETIREMENT w_VOLUNTARY_GOOD_CAUSE w_GOOD_REASON w_VOLUNTARY_RETIREMENT w_INVOLUNTARY_OTHER w_WITHOUT_CAUSE w_INVOLUNTARY_DEATH w_DEATH w_INVOLUNTARY_DISABILITY w_DISABILITY w_INVOLUNTARY_WITH_CAUSE w_CAUSE h0 n0 _ T23.heap _
            rw [e23]
            exact ⟨rfl, N22⟩
        ·
          refine Go.of (fun _ k => XS.icmpYes X0.here hx rfl (pc0 := 57) (pc' := 71) rfl (hb hby at_57) rfl (feq hc19).2 (by decide) (by decide) k) ?_
          show Go p e below _ (s₁.setTop (mkF m 71 #[.val (.int p0), .val (.int ((p0 &&& (2147483647 : Int32)) % (7 : Int32))), .unset, .unset, .unset] []))
          refine Go.of (fun _ k => XS.iloadN X0.here hx rfl (hb hby at_71) rfl  k) ?_
          show Go p e below _ (s₁.setTop (mkF m 72 #[.val (.int p0), .val (.int ((p0 &&& (2147483647 : Int32)) % (7 : Int32))), .unset, .unset, .unset] [(.int ((p0 &&& (2147483647 : Int32)) % (7 : Int32)))]))
          refine Go.of (fun _ k => XS.iconst X0.here hx rfl (hb hby at_72) k) ?_
          show Go p e below _ (s₁.setTop (mkF m 73 #[.val (.int p0), .val (.int ((p0 &&& (2147483647 : Int32)) % (7 : Int32))), .unset, .unset, .unset] [(.int (4 : Int32)), (.int ((p0 &&& (2147483647 : Int32)) % (7 : Int32)))]))
          by_cases hc25 : ((p0 &&& (2147483647 : Int32)) % (7 : Int32)) = (4 : Int32)
          ·
            refine Go.of (fun _ k => XS.icmpNo X0.here hx rfl (hb hby at_73) rfl (teq hc25).2 k) ?_
            show Go p e below _ (s₁.setTop (mkF m 76 #[.val (.int p0), .val (.int ((p0 &&& (2147483647 : Int32)) % (7 : Int32))), .unset, .unset, .unset] []))
            obtain ⟨T26, X26, e26, st26⟩ := getS2 X0 hx hZ hown (host := "") (Or.inl (hw _ (List.mem_of_getElem? (i := 40) rfl))) Via.refl e0 S_INVOLUNTARY_DEATH (g := (mkF m 76 #[.val (.int p0), .val (.int ((p0 &&& (2147483647 : Int32)) % (7 : Int32))), .unset, .unset, .unset] [])) rfl (hb hby at_76)
            refine Go.of st26 ?_
            show Go p e below _ (T26.setTop (mkF m 79 #[.val (.int p0), .val (.int ((p0 &&& (2147483647 : Int32)) % (7 : Int32))), .unset, .unset, .unset] [(.ref w_INVOLUNTARY_DEATH)]))
            refine Go.of (fun _ k => XS.astoreN X26.here hx rfl (hb hby at_79) rfl rfl (l' := #[.val (.int p0), .val (.int ((p0 &&& (2147483647 : Int32)) % (7 : Int32))), .val (.ref w_INVOLUNTARY_DEATH), .unset, .unset]) rfl k) ?_
            show Go p e below _ (T26.setTop (mkF m 80 #[.val (.int p0), .val (.int ((p0 &&& (2147483647 : Int32)) % (7 : Int32))), .val (.ref w_INVOLUNTARY_DEATH), .unset, .unset] []))
            obtain ⟨T27, X27, e27, st27⟩ := getS2 X26 hx hZ hown (host := "") (Or.inl (hw _ (List.mem_of_getElem? (i := 42) rfl))) Via.refl e26 S_DEATH (g := (mkF m 80 #[.val (.int p0), .val (.int ((p0 &&& (2147483647 : Int32)) % (7 : Int32))), .val (.ref w_INVOLUNTARY_DEATH), .unset, .unset] [])) rfl (hb hby at_80)
            refine Go.of st27 ?_
            show Go p e below _ (T27.setTop (mkF m 83 #[.val (.int p0), .val (.int ((p0 &&& (2147483647 : Int32)) % (7 : Int32))), .val (.ref w_INVOLUNTARY_DEATH), .unset, .unset] [(.ref w_DEATH)]))
            refine Go.of (fun _ k => XS.astoreN X27.here hx rfl (hb hby at_83) rfl rfl (l' := #[.val (.int p0), .val (.int ((p0 &&& (2147483647 : Int32)) % (7 : Int32))), .val (.ref w_INVOLUNTARY_DEATH), .val (.ref w_DEATH), .unset]) rfl k) ?_
            show Go p e below _ (T27.setTop (mkF m 84 #[.val (.int p0), .val (.int ((p0 &&& (2147483647 : Int32)) % (7 : Int32))), .val (.ref w_INVOLUNTARY_DEATH), .val (.ref w_DEATH), .unset] []))
            refine Go.of (fun _ k => XS.goto X27.here hx rfl (pc0 := 84) (pc' := 111) rfl (hb hby at_84) (by decide) (by decide) k) ?_
            show Go p e below _ (T27.setTop (mkF m 111 #[.val (.int p0), .val (.int ((p0 &&& (2147483647 : Int32)) % (7 : Int32))), .val (.ref w_INVOLUNTARY_DEATH), .val (.ref w_DEATH), .unset] []))
            refine Go.of (fun _ k => XS.aloadN X27.here hx rfl (hb hby at_111) rfl rfl k) ?_
            show Go p e below _ (T27.setTop (mkF m 112 #[.val (.int p0), .val (.int ((p0 &&& (2147483647 : Int32)) % (7 : Int32))), .val (.ref w_INVOLUNTARY_DEATH), .val (.ref w_DEATH), .unset] [(.ref w_INVOLUNTARY_DEATH)]))
            obtain ⟨_, _, ⟨T28, L28, k28, n28⟩, -, X28, ⟨Lc28, hQ28, l28, y28, z28⟩, st28⟩ := Jvm.LawKit.callS X27 hx (y := (⟨"com/example/vestry/vestry/plan/TerminationCategory", "named", "(Lcom/example/vestry/vestry/ledger/TerminationReason;)Lcom/example/vestry/vestry/plan/TerminationCategory;"⟩ : MethodName)) hown (mvT hZ (hw _ (List.mem_of_getElem? (i := 7) rfl))) (mvT hZ (hw _ (List.mem_of_getElem? (i := 8) rfl))) (mvT hZ (hw _ (List.mem_of_getElem? (i := 5) rfl))) (mvT hZ (hw _ (List.mem_of_getElem? (i := 9) rfl))) (by decide) (backOf (W := 0) (rm1_4 l Z a0 hw [] w_INVOLUNTARY_DEATH w__SwitchMap_com_example_vestry_vestry_ledger_TerminationReason kSM w_DEATH h0 n0 Z0 S__SwitchMap_com_example_vestry_vestry_ledger_TerminationReason F_w_INVOLUNTARY_DEATH_ordinal E_w_INVOLUNTARY_DEATH V_w__SwitchMap_com_example_vestry_vestry_ledger_TerminationReason S_DEATH) hZ (hw _ (List.mem_of_getElem? (i := 9) rfl)) (hw _ (List.mem_of_getElem? (i := 5) rfl)) (by decide) (by decide)) (g := (mkF m 112 #[.val (.int p0), .val (.int ((p0 &&& (2147483647 : Int32)) % (7 : Int32))), .val (.ref w_INVOLUNTARY_DEATH), .val (.ref w_DEATH), .unset] [(.ref w_INVOLUNTARY_DEATH)])) rfl (by rw [hml]; rfl) (argsL := [(.ref w_INVOLUNTARY_DEATH)]) (rest := []) (lenOf pd_1 rfl) rfl (by show 2 * 0 + _ ≤ _; exact Nat.le_of_eq rfl) (hb hby at_112) (fun _ _ => ⟨rfl, e27, (by decide : 0 + 0 ≤ _), (by decide : 0 + 0 ≤ _)⟩)
            dsimp only [Pt.U, Pt.locs, Pt.cells, Pt.slots] at X28 l28 y28 z28 st28 hQ28
            subst l28 y28 z28
            obtain ⟨rfl, Nq28, q28_0⟩ := hQ28
            have N28 := Fr.app N0 Nq28
            refine Go.of st28 ?_
            show Go p e below _ (T28.setTop (mkF m 115 #[.val (.int p0), .val (.int ((p0 &&& (2147483647 : Int32)) % (7 : Int32))), .val (.ref w_INVOLUNTARY_DEATH), .val (.ref w_DEATH), .unset] [(.ref w_DEATH)]))
            refine Go.of (fun _ k => XS.astore X28.here hx rfl (hb hby at_115) rfl rfl (l' := #[.val (.int p0), .val (.int ((p0 &&& (2147483647 : Int32)) % (7 : Int32))), .val (.ref w_INVOLUNTARY_DEATH), .val (.ref w_DEATH), .val (.ref w_DEATH)]) rfl k) ?_
            show Go p e below _ (T28.setTop (mkF m 117 #[.val (.int p0), .val (.int ((p0 &&& (2147483647 : Int32)) % (7 : Int32))), .val (.ref w_INVOLUNTARY_DEATH), .val (.ref w_DEATH), .val (.ref w_DEATH)] []))
            refine Go.of (fun _ k => XS.aload X28.here hx rfl (hb hby at_117) rfl rfl k) ?_
            show Go p e below _ (T28.setTop (mkF m 119 #[.val (.int p0), .val (.int ((p0 &&& (2147483647 : Int32)) % (7 : Int32))), .val (.ref w_INVOLUNTARY_DEATH), .val (.ref w_DEATH), .val (.ref w_DEATH)] [(.ref w_DEATH)]))
            refine Go.of (fun _ k => XS.aloadN X28.here hx rfl (hb hby at_119) rfl rfl k) ?_
            show Go p e below _ (T28.setTop (mkF m 120 #[.val (.int p0), .val (.int ((p0 &&& (2147483647 : Int32)) % (7 : Int32))), .val (.ref w_INVOLUNTARY_DEATH), .val (.ref w_DEATH), .val (.ref w_DEATH)] [(.ref w_DEATH), (.ref w_DEATH)]))
            refine Go.of (fun _ k => Jvm.RoadKit.acmp (g := (mkF m 120 #[.val (.int p0), .val (.int ((p0 &&& (2147483647 : Int32)) % (7 : Int32))), .val (.ref w_INVOLUNTARY_DEATH), .val (.ref w_DEATH), .val (.ref w_DEATH)] [(.ref w_DEATH), (.ref w_DEATH)])) X28 hx rfl rfl rfl (pc0 := 120) (pc' := 123) (same := true) rfl (hb hby at_120) rfl (decide_eq_true rfl) (by decide) (by decide) k) ?_
            show Go p e below _ (T28.setTop (mkF m 123 #[.val (.int p0), .val (.int ((p0 &&& (2147483647 : Int32)) % (7 : Int32))), .val (.ref w_INVOLUNTARY_DEATH), .val (.ref w_DEATH), .val (.ref w_DEATH)] []))
            refine Go.of (fun _ k => XS.aload X28.here hx rfl (hb hby at_123) rfl rfl k) ?_
            show Go p e below _ (T28.setTop (mkF m 125 #[.val (.int p0), .val (.int ((p0 &&& (2147483647 : Int32)) % (7 : Int32))), .val (.ref w_INVOLUNTARY_DEATH), .val (.ref w_DEATH), .val (.ref w_DEATH)] [(.ref w_DEATH)]))
            obtain ⟨T29, X29, e29, st29⟩ := getS2 X28 hx hZ hown (host := "") (Or.inl (hw _ (List.mem_of_getElem? (i := 23) rfl))) Via.refl q28_0 S_RETIREMENT (g := (mkF m 125 #[.val (.int p0), .val (.int ((p0 &&& (2147483647 : Int32)) % (7 : Int32))), .val (.ref w_INVOLUNTARY_DEATH), .val (.ref w_DEATH), .val (.ref w_DEATH)] [(.ref w_DEATH)])) rfl (hb hby at_125)
            refine Go.of st29 ?_
            show Go p e below _ (T29.setTop (mkF m 128 #[.val (.int p0), .val (.int ((p0 &&& (2147483647 : Int32)) % (7 : Int32))), .val (.ref w_INVOLUNTARY_DEATH), .val (.ref w_DEATH), .val (.ref w_DEATH)] [(.ref w_RETIREMENT), (.ref w_DEATH)]))
            refine Go.of (fun _ k => Jvm.RoadKit.acmp (g := (mkF m 128 #[.val (.int p0), .val (.int ((p0 &&& (2147483647 : Int32)) % (7 : Int32))), .val (.ref w_INVOLUNTARY_DEATH), .val (.ref w_DEATH), .val (.ref w_DEATH)] [(.ref w_RETIREMENT), (.ref w_DEATH)])) X29 hx rfl rfl rfl (pc0 := 128) (pc' := 131) (same := false) rfl (hb hby at_128) rfl (decide_eq_false fun q => ne_w_DEATH_w_RETIREMENT (Value.ref.inj q)) (by decide) (by decide) k) ?_
            show Go p e below _ (T29.setTop (mkF m 131 #[.val (.int p0), .val (.int ((p0 &&& (2147483647 : Int32)) % (7 : Int32))), .val (.ref w_INVOLUNTARY_DEATH), .val (.ref w_DEATH), .val (.ref w_DEATH)] []))
            refine Go.of (fun _ k => XS.iconst X29.here hx rfl (hb hby at_131) k) ?_
            show Go p e below _ (T29.setTop (mkF m 132 #[.val (.int p0), .val (.int ((p0 &&& (2147483647 : Int32)) % (7 : Int32))), .val (.ref w_INVOLUNTARY_DEATH), .val (.ref w_DEATH), .val (.ref w_DEATH)] [(.int (1 : Int32))]))
            refine Go.of (fun _ k => XS.goto X29.here hx rfl (pc0 := 132) (pc' := 136) rfl (hb hby at_132) (by decide) (by decide) k) ?_
            show Go p e below _ (T29.setTop (mkF m 136 #[.val (.int p0), .val (.int ((p0 &&& (2147483647 : Int32)) % (7 : Int32))), .val (.ref w_INVOLUNTARY_DEATH), .val (.ref w_DEATH), .val (.ref w_DEATH)] [(.int (1 : Int32))]))
            obtain ⟨fs, hr, hrun, hended, hW, hsame⟩ := X29.leave (v := some (.int (1 : Int32))) (fun h => by rw [Bd.returns] at h; cases h)
            refine Go.mk _ _ ?_ hrun hended ⟨_, _, rfl, ?_, ⟨_, rfl⟩, hW, hsame.mono (by decide) (by decide)⟩
            · exact retN X29 hx (t := .boolean) Bd.returns (by simp) (hb hby at_136) hr
            · show Q0 Z p0 w_VOLUNTARY_OTHER w_VOLUNTARY w__SwitchMap_com_example_vestry_vestry_ledger_TerminationReason kSM w_RETIREMENT w_VOLUNTARY_GOOD_CAUSE w_GOOD_REASON w_VOLUNTARY_RETIREMENT w_INVOLUNTARY_OTHER w_WITHOUT_CAUSE w_INVOLUNTARY_DEATH w_DEATH w_INVOLUNTARY_DISABILITY w_DISABILITY w_INVOLUNTARY_WITH_CAUSE w_CAUSE h0 n0 _ T29.heap _
              rw [e29]
              exact ⟨rfl, N28⟩
          ·
            refine Go.of (fun _ k => XS.icmpYes X0.here hx rfl (pc0 := 73) (pc' := 87) rfl (hb hby at_73) rfl (feq hc25).2 (by decide) (by decide) k) ?_
            show Go p e below _ (s₁.setTop (mkF m 87 #[.val (.int p0), .val (.int ((p0 &&& (2147483647 : Int32)) % (7 : Int32))), .unset, .unset, .unset] []))
            refine Go.of (fun _ k => XS.iloadN X0.here hx rfl (hb hby at_87) rfl  k) ?_
            show Go p e below _ (s₁.setTop (mkF m 88 #[.val (.int p0), .val (.int ((p0 &&& (2147483647 : Int32)) % (7 : Int32))), .unset, .unset, .unset] [(.int ((p0 &&& (2147483647 : Int32)) % (7 : Int32)))]))
            refine Go.of (fun _ k => XS.iconst X0.here hx rfl (hb hby at_88) k) ?_
            show Go p e below _ (s₁.setTop (mkF m 89 #[.val (.int p0), .val (.int ((p0 &&& (2147483647 : Int32)) % (7 : Int32))), .unset, .unset, .unset] [(.int (5 : Int32)), (.int ((p0 &&& (2147483647 : Int32)) % (7 : Int32)))]))
            by_cases hc31 : ((p0 &&& (2147483647 : Int32)) % (7 : Int32)) = (5 : Int32)
            ·
              refine Go.of (fun _ k => XS.icmpNo X0.here hx rfl (hb hby at_89) rfl (teq hc31).2 k) ?_
              show Go p e below _ (s₁.setTop (mkF m 92 #[.val (.int p0), .val (.int ((p0 &&& (2147483647 : Int32)) % (7 : Int32))), .unset, .unset, .unset] []))
              obtain ⟨T32, X32, e32, st32⟩ := getS2 X0 hx hZ hown (host := "") (Or.inl (hw _ (List.mem_of_getElem? (i := 30) rfl))) Via.refl e0 S_INVOLUNTARY_DISABILITY (g := (mkF m 92 #[.val (.int p0), .val (.int ((p0 &&& (2147483647 : Int32)) % (7 : Int32))), .unset, .unset, .unset] [])) rfl (hb hby at_92)
              refine Go.of st32 ?_
              show Go p e below _ (T32.setTop (mkF m 95 #[.val (.int p0), .val (.int ((p0 &&& (2147483647 : Int32)) % (7 : Int32))), .unset, .unset, .unset] [(.ref w_INVOLUNTARY_DISABILITY)]))
              refine Go.of (fun _ k => XS.astoreN X32.here hx rfl (hb hby at_95) rfl rfl (l' := #[.val (.int p0), .val (.int ((p0 &&& (2147483647 : Int32)) % (7 : Int32))), .val (.ref w_INVOLUNTARY_DISABILITY), .unset, .unset]) rfl k) ?_
              show Go p e below _ (T32.setTop (mkF m 96 #[.val (.int p0), .val (.int ((p0 &&& (2147483647 : Int32)) % (7 : Int32))), .val (.ref w_INVOLUNTARY_DISABILITY), .unset, .unset] []))
              obtain ⟨T33, X33, e33, st33⟩ := getS2 X32 hx hZ hown (host := "") (Or.inl (hw _ (List.mem_of_getElem? (i := 32) rfl))) Via.refl e32 S_DISABILITY (g := (mkF m 96 #[.val (.int p0), .val (.int ((p0 &&& (2147483647 : Int32)) % (7 : Int32))), .val (.ref w_INVOLUNTARY_DISABILITY), .unset, .unset] [])) rfl (hb hby at_96)
              refine Go.of st33 ?_
              show Go p e below _ (T33.setTop (mkF m 99 #[.val (.int p0), .val (.int ((p0 &&& (2147483647 : Int32)) % (7 : Int32))), .val (.ref w_INVOLUNTARY_DISABILITY), .unset, .unset] [(.ref w_DISABILITY)]))
              refine Go.of (fun _ k => XS.astoreN X33.here hx rfl (hb hby at_99) rfl rfl (l' := #[.val (.int p0), .val (.int ((p0 &&& (2147483647 : Int32)) % (7 : Int32))), .val (.ref w_INVOLUNTARY_DISABILITY), .val (.ref w_DISABILITY), .unset]) rfl k) ?_
              show Go p e below _ (T33.setTop (mkF m 100 #[.val (.int p0), .val (.int ((p0 &&& (2147483647 : Int32)) % (7 : Int32))), .val (.ref w_INVOLUNTARY_DISABILITY), .val (.ref w_DISABILITY), .unset] []))
              refine Go.of (fun _ k => XS.goto X33.here hx rfl (pc0 := 100) (pc' := 111) rfl (hb hby at_100) (by decide) (by decide) k) ?_
              show Go p e below _ (T33.setTop (mkF m 111 #[.val (.int p0), .val (.int ((p0 &&& (2147483647 : Int32)) % (7 : Int32))), .val (.ref w_INVOLUNTARY_DISABILITY), .val (.ref w_DISABILITY), .unset] []))
              refine Go.of (fun _ k => XS.aloadN X33.here hx rfl (hb hby at_111) rfl rfl k) ?_
              show Go p e below _ (T33.setTop (mkF m 112 #[.val (.int p0), .val (.int ((p0 &&& (2147483647 : Int32)) % (7 : Int32))), .val (.ref w_INVOLUNTARY_DISABILITY), .val (.ref w_DISABILITY), .unset] [(.ref w_INVOLUNTARY_DISABILITY)]))
              obtain ⟨_, _, ⟨T34, L34, k34, n34⟩, -, X34, ⟨Lc34, hQ34, l34, y34, z34⟩, st34⟩ := Jvm.LawKit.callS X33 hx (y := (⟨"com/example/vestry/vestry/plan/TerminationCategory", "named", "(Lcom/example/vestry/vestry/ledger/TerminationReason;)Lcom/example/vestry/vestry/plan/TerminationCategory;"⟩ : MethodName)) hown (mvT hZ (hw _ (List.mem_of_getElem? (i := 7) rfl))) (mvT hZ (hw _ (List.mem_of_getElem? (i := 8) rfl))) (mvT hZ (hw _ (List.mem_of_getElem? (i := 5) rfl))) (mvT hZ (hw _ (List.mem_of_getElem? (i := 9) rfl))) (by decide) (backOf (W := 0) (rm1_5 l Z a0 hw [] w_INVOLUNTARY_DISABILITY w__SwitchMap_com_example_vestry_vestry_ledger_TerminationReason kSM w_DISABILITY h0 n0 Z0 S__SwitchMap_com_example_vestry_vestry_ledger_TerminationReason F_w_INVOLUNTARY_DISABILITY_ordinal E_w_INVOLUNTARY_DISABILITY V_w__SwitchMap_com_example_vestry_vestry_ledger_TerminationReason S_DISABILITY) hZ (hw _ (List.mem_of_getElem? (i := 9) rfl)) (hw _ (List.mem_of_getElem? (i := 5) rfl)) (by decide) (by decide)) (g := (mkF m 112 #[.val (.int p0), .val (.int ((p0 &&& (2147483647 : Int32)) % (7 : Int32))), .val (.ref w_INVOLUNTARY_DISABILITY), .val (.ref w_DISABILITY), .unset] [(.ref w_INVOLUNTARY_DISABILITY)])) rfl (by rw [hml]; rfl) (argsL := [(.ref w_INVOLUNTARY_DISABILITY)]) (rest := []) (lenOf pd_1 rfl) rfl (by show 2 * 0 + _ ≤ _; exact Nat.le_of_eq rfl) (hb hby at_112) (fun _ _ => ⟨rfl, e33, (by decide : 0 + 0 ≤ _), (by decide : 0 + 0 ≤ _)⟩)
              dsimp only [Pt.U, Pt.locs, Pt.cells, Pt.slots] at X34 l34 y34 z34 st34 hQ34
              subst l34 y34 z34
              obtain ⟨rfl, Nq34, q34_0⟩ := hQ34
              have N34 := Fr.app N0 Nq34
              refine Go.of st34 ?_
              show Go p e below _ (T34.setTop (mkF m 115 #[.val (.int p0), .val (.int ((p0 &&& (2147483647 : Int32)) % (7 : Int32))), .val (.ref w_INVOLUNTARY_DISABILITY), .val (.ref w_DISABILITY), .unset] [(.ref w_DISABILITY)]))
              refine Go.of (fun _ k => XS.astore X34.here hx rfl (hb hby at_115) rfl rfl (l' := #[.val (.int p0), .val (.int ((p0 &&& (2147483647 : Int32)) % (7 : Int32))), .val (.ref w_INVOLUNTARY_DISABILITY), .val (.ref w_DISABILITY), .val (.ref w_DISABILITY)]) rfl k) ?_
              show Go p e below _ (T34.setTop (mkF m 117 #[.val (.int p0), .val (.int ((p0 &&& (2147483647 : Int32)) % (7 : Int32))), .val (.ref w_INVOLUNTARY_DISABILITY), .val (.ref w_DISABILITY), .val (.ref w_DISABILITY)] []))
              refine Go.of (fun _ k => XS.aload X34.here hx rfl (hb hby at_117) rfl rfl k) ?_
              show Go p e below _ (T34.setTop (mkF m 119 #[.val (.int p0), .val (.int ((p0 &&& (2147483647 : Int32)) % (7 : Int32))), .val (.ref w_INVOLUNTARY_DISABILITY), .val (.ref w_DISABILITY), .val (.ref w_DISABILITY)] [(.ref w_DISABILITY)]))
              refine Go.of (fun _ k => XS.aloadN X34.here hx rfl (hb hby at_119) rfl rfl k) ?_
              show Go p e below _ (T34.setTop (mkF m 120 #[.val (.int p0), .val (.int ((p0 &&& (2147483647 : Int32)) % (7 : Int32))), .val (.ref w_INVOLUNTARY_DISABILITY), .val (.ref w_DISABILITY), .val (.ref w_DISABILITY)] [(.ref w_DISABILITY), (.ref w_DISABILITY)]))
              refine Go.of (fun _ k => Jvm.RoadKit.acmp (g := (mkF m 120 #[.val (.int p0), .val (.int ((p0 &&& (2147483647 : Int32)) % (7 : Int32))), .val (.ref w_INVOLUNTARY_DISABILITY), .val (.ref w_DISABILITY), .val (.ref w_DISABILITY)] [(.ref w_DISABILITY), (.ref w_DISABILITY)])) X34 hx rfl rfl rfl (pc0 := 120) (pc' := 123) (same := true) rfl (hb hby at_120) rfl (decide_eq_true rfl) (by decide) (by decide) k) ?_
              show Go p e below _ (T34.setTop (mkF m 123 #[.val (.int p0), .val (.int ((p0 &&& (2147483647 : Int32)) % (7 : Int32))), .val (.ref w_INVOLUNTARY_DISABILITY), .val (.ref w_DISABILITY), .val (.ref w_DISABILITY)] []))
              refine Go.of (fun _ k => XS.aload X34.here hx rfl (hb hby at_123) rfl rfl k) ?_
              show Go p e below _ (T34.setTop (mkF m 125 #[.val (.int p0), .val (.int ((p0 &&& (2147483647 : Int32)) % (7 : Int32))), .val (.ref w_INVOLUNTARY_DISABILITY), .val (.ref w_DISABILITY), .val (.ref w_DISABILITY)] [(.ref w_DISABILITY)]))
              obtain ⟨T35, X35, e35, st35⟩ := getS2 X34 hx hZ hown (host := "") (Or.inl (hw _ (List.mem_of_getElem? (i := 23) rfl))) Via.refl q34_0 S_RETIREMENT (g := (mkF m 125 #[.val (.int p0), .val (.int ((p0 &&& (2147483647 : Int32)) % (7 : Int32))), .val (.ref w_INVOLUNTARY_DISABILITY), .val (.ref w_DISABILITY), .val (.ref w_DISABILITY)] [(.ref w_DISABILITY)])) rfl (hb hby at_125)
              refine Go.of st35 ?_
              show Go p e below _ (T35.setTop (mkF m 128 #[.val (.int p0), .val (.int ((p0 &&& (2147483647 : Int32)) % (7 : Int32))), .val (.ref w_INVOLUNTARY_DISABILITY), .val (.ref w_DISABILITY), .val (.ref w_DISABILITY)] [(.ref w_RETIREMENT), (.ref w_DISABILITY)]))
              refine Go.of (fun _ k => Jvm.RoadKit.acmp (g := (mkF m 128 #[.val (.int p0), .val (.int ((p0 &&& (2147483647 : Int32)) % (7 : Int32))), .val (.ref w_INVOLUNTARY_DISABILITY), .val (.ref w_DISABILITY), .val (.ref w_DISABILITY)] [(.ref w_RETIREMENT), (.ref w_DISABILITY)])) X35 hx rfl rfl rfl (pc0 := 128) (pc' := 131) (same := false) rfl (hb hby at_128) rfl (decide_eq_false fun q => ne_w_DISABILITY_w_RETIREMENT (Value.ref.inj q)) (by decide) (by decide) k) ?_
              show Go p e below _ (T35.setTop (mkF m 131 #[.val (.int p0), .val (.int ((p0 &&& (2147483647 : Int32)) % (7 : Int32))), .val (.ref w_INVOLUNTARY_DISABILITY), .val (.ref w_DISABILITY), .val (.ref w_DISABILITY)] []))
              refine Go.of (fun _ k => XS.iconst X35.here hx rfl (hb hby at_131) k) ?_
              show Go p e below _ (T35.setTop (mkF m 132 #[.val (.int p0), .val (.int ((p0 &&& (2147483647 : Int32)) % (7 : Int32))), .val (.ref w_INVOLUNTARY_DISABILITY), .val (.ref w_DISABILITY), .val (.ref w_DISABILITY)] [(.int (1 : Int32))]))
              refine Go.of (fun _ k => XS.goto X35.here hx rfl (pc0 := 132) (pc' := 136) rfl (hb hby at_132) (by decide) (by decide) k) ?_
              show Go p e below _ (T35.setTop (mkF m 136 #[.val (.int p0), .val (.int ((p0 &&& (2147483647 : Int32)) % (7 : Int32))), .val (.ref w_INVOLUNTARY_DISABILITY), .val (.ref w_DISABILITY), .val (.ref w_DISABILITY)] [(.int (1 : Int32))]))
              obtain ⟨fs, hr, hrun, hended, hW, hsame⟩ := X35.leave (v := some (.int (1 : Int32))) (fun h => by rw [Bd.returns] at h; cases h)
              refine Go.mk _ _ ?_ hrun hended ⟨_, _, rfl, ?_, ⟨_, rfl⟩, hW, hsame.mono (by decide) (by decide)⟩
              · exact retN X35 hx (t := .boolean) Bd.returns (by simp) (hb hby at_136) hr
              · show Q0 Z p0 w_VOLUNTARY_OTHER w_VOLUNTARY w__SwitchMap_com_example_vestry_vestry_ledger_TerminationReason kSM w_RETIREMENT w_VOLUNTARY_GOOD_CAUSE w_GOOD_REASON w_VOLUNTARY_RETIREMENT w_INVOLUNTARY_OTHER w_WITHOUT_CAUSE w_INVOLUNTARY_DEATH w_DEATH w_INVOLUNTARY_DISABILITY w_DISABILITY w_INVOLUNTARY_WITH_CAUSE w_CAUSE h0 n0 _ T35.heap _
                rw [e35]
                exact ⟨rfl, N34⟩
            ·
              refine Go.of (fun _ k => XS.icmpYes X0.here hx rfl (pc0 := 89) (pc' := 103) rfl (hb hby at_89) rfl (feq hc31).2 (by decide) (by decide) k) ?_
              show Go p e below _ (s₁.setTop (mkF m 103 #[.val (.int p0), .val (.int ((p0 &&& (2147483647 : Int32)) % (7 : Int32))), .unset, .unset, .unset] []))
              obtain ⟨T37, X37, e37, st37⟩ := getS2 X0 hx hZ hown (host := "") (Or.inl (hw _ (List.mem_of_getElem? (i := 35) rfl))) Via.refl e0 S_INVOLUNTARY_WITH_CAUSE (g := (mkF m 103 #[.val (.int p0), .val (.int ((p0 &&& (2147483647 : Int32)) % (7 : Int32))), .unset, .unset, .unset] [])) rfl (hb hby at_103)
              refine Go.of st37 ?_
              show Go p e below _ (T37.setTop (mkF m 106 #[.val (.int p0), .val (.int ((p0 &&& (2147483647 : Int32)) % (7 : Int32))), .unset, .unset, .unset] [(.ref w_INVOLUNTARY_WITH_CAUSE)]))
              refine Go.of (fun _ k => XS.astoreN X37.here hx rfl (hb hby at_106) rfl rfl (l' := #[.val (.int p0), .val (.int ((p0 &&& (2147483647 : Int32)) % (7 : Int32))), .val (.ref w_INVOLUNTARY_WITH_CAUSE), .unset, .unset]) rfl k) ?_
              show Go p e below _ (T37.setTop (mkF m 107 #[.val (.int p0), .val (.int ((p0 &&& (2147483647 : Int32)) % (7 : Int32))), .val (.ref w_INVOLUNTARY_WITH_CAUSE), .unset, .unset] []))
              obtain ⟨T38, X38, e38, st38⟩ := getS2 X37 hx hZ hown (host := "") (Or.inl (hw _ (List.mem_of_getElem? (i := 37) rfl))) Via.refl e37 S_CAUSE (g := (mkF m 107 #[.val (.int p0), .val (.int ((p0 &&& (2147483647 : Int32)) % (7 : Int32))), .val (.ref w_INVOLUNTARY_WITH_CAUSE), .unset, .unset] [])) rfl (hb hby at_107)
              refine Go.of st38 ?_
              show Go p e below _ (T38.setTop (mkF m 110 #[.val (.int p0), .val (.int ((p0 &&& (2147483647 : Int32)) % (7 : Int32))), .val (.ref w_INVOLUNTARY_WITH_CAUSE), .unset, .unset] [(.ref w_CAUSE)]))
              refine Go.of (fun _ k => XS.astoreN X38.here hx rfl (hb hby at_110) rfl rfl (l' := #[.val (.int p0), .val (.int ((p0 &&& (2147483647 : Int32)) % (7 : Int32))), .val (.ref w_INVOLUNTARY_WITH_CAUSE), .val (.ref w_CAUSE), .unset]) rfl k) ?_
              show Go p e below _ (T38.setTop (mkF m 111 #[.val (.int p0), .val (.int ((p0 &&& (2147483647 : Int32)) % (7 : Int32))), .val (.ref w_INVOLUNTARY_WITH_CAUSE), .val (.ref w_CAUSE), .unset] []))
              refine Go.of (fun _ k => XS.aloadN X38.here hx rfl (hb hby at_111) rfl rfl k) ?_
              show Go p e below _ (T38.setTop (mkF m 112 #[.val (.int p0), .val (.int ((p0 &&& (2147483647 : Int32)) % (7 : Int32))), .val (.ref w_INVOLUNTARY_WITH_CAUSE), .val (.ref w_CAUSE), .unset] [(.ref w_INVOLUNTARY_WITH_CAUSE)]))
              obtain ⟨_, _, ⟨T39, L39, k39, n39⟩, -, X39, ⟨Lc39, hQ39, l39, y39, z39⟩, st39⟩ := Jvm.LawKit.callS X38 hx (y := (⟨"com/example/vestry/vestry/plan/TerminationCategory", "named", "(Lcom/example/vestry/vestry/ledger/TerminationReason;)Lcom/example/vestry/vestry/plan/TerminationCategory;"⟩ : MethodName)) hown (mvT hZ (hw _ (List.mem_of_getElem? (i := 7) rfl))) (mvT hZ (hw _ (List.mem_of_getElem? (i := 8) rfl))) (mvT hZ (hw _ (List.mem_of_getElem? (i := 5) rfl))) (mvT hZ (hw _ (List.mem_of_getElem? (i := 9) rfl))) (by decide) (backOf (W := 0) (rm1_6 l Z a0 hw [] w_INVOLUNTARY_WITH_CAUSE w__SwitchMap_com_example_vestry_vestry_ledger_TerminationReason kSM w_CAUSE h0 n0 Z0 S__SwitchMap_com_example_vestry_vestry_ledger_TerminationReason F_w_INVOLUNTARY_WITH_CAUSE_ordinal E_w_INVOLUNTARY_WITH_CAUSE V_w__SwitchMap_com_example_vestry_vestry_ledger_TerminationReason S_CAUSE) hZ (hw _ (List.mem_of_getElem? (i := 9) rfl)) (hw _ (List.mem_of_getElem? (i := 5) rfl)) (by decide) (by decide)) (g := (mkF m 112 #[.val (.int p0), .val (.int ((p0 &&& (2147483647 : Int32)) % (7 : Int32))), .val (.ref w_INVOLUNTARY_WITH_CAUSE), .val (.ref w_CAUSE), .unset] [(.ref w_INVOLUNTARY_WITH_CAUSE)])) rfl (by rw [hml]; rfl) (argsL := [(.ref w_INVOLUNTARY_WITH_CAUSE)]) (rest := []) (lenOf pd_1 rfl) rfl (by show 2 * 0 + _ ≤ _; exact Nat.le_of_eq rfl) (hb hby at_112) (fun _ _ => ⟨rfl, e38, (by decide : 0 + 0 ≤ _), (by decide : 0 + 0 ≤ _)⟩)
              dsimp only [Pt.U, Pt.locs, Pt.cells, Pt.slots] at X39 l39 y39 z39 st39 hQ39
              subst l39 y39 z39
              obtain ⟨rfl, Nq39, q39_0⟩ := hQ39
              have N39 := Fr.app N0 Nq39
              refine Go.of st39 ?_
              show Go p e below _ (T39.setTop (mkF m 115 #[.val (.int p0), .val (.int ((p0 &&& (2147483647 : Int32)) % (7 : Int32))), .val (.ref w_INVOLUNTARY_WITH_CAUSE), .val (.ref w_CAUSE), .unset] [(.ref w_CAUSE)]))
              refine Go.of (fun _ k => XS.astore X39.here hx rfl (hb hby at_115) rfl rfl (l' := #[.val (.int p0), .val (.int ((p0 &&& (2147483647 : Int32)) % (7 : Int32))), .val (.ref w_INVOLUNTARY_WITH_CAUSE), .val (.ref w_CAUSE), .val (.ref w_CAUSE)]) rfl k) ?_
              show Go p e below _ (T39.setTop (mkF m 117 #[.val (.int p0), .val (.int ((p0 &&& (2147483647 : Int32)) % (7 : Int32))), .val (.ref w_INVOLUNTARY_WITH_CAUSE), .val (.ref w_CAUSE), .val (.ref w_CAUSE)] []))
              refine Go.of (fun _ k => XS.aload X39.here hx rfl (hb hby at_117) rfl rfl k) ?_
              show Go p e below _ (T39.setTop (mkF m 119 #[.val (.int p0), .val (.int ((p0 &&& (2147483647 : Int32)) % (7 : Int32))), .val (.ref w_INVOLUNTARY_WITH_CAUSE), .val (.ref w_CAUSE), .val (.ref w_CAUSE)] [(.ref w_CAUSE)]))
              refine Go.of (fun _ k => XS.aloadN X39.here hx rfl (hb hby at_119) rfl rfl k) ?_
              show Go p e below _ (T39.setTop (mkF m 120 #[.val (.int p0), .val (.int ((p0 &&& (2147483647 : Int32)) % (7 : Int32))), .val (.ref w_INVOLUNTARY_WITH_CAUSE), .val (.ref w_CAUSE), .val (.ref w_CAUSE)] [(.ref w_CAUSE), (.ref w_CAUSE)]))
              refine Go.of (fun _ k => Jvm.RoadKit.acmp (g := (mkF m 120 #[.val (.int p0), .val (.int ((p0 &&& (2147483647 : Int32)) % (7 : Int32))), .val (.ref w_INVOLUNTARY_WITH_CAUSE), .val (.ref w_CAUSE), .val (.ref w_CAUSE)] [(.ref w_CAUSE), (.ref w_CAUSE)])) X39 hx rfl rfl rfl (pc0 := 120) (pc' := 123) (same := true) rfl (hb hby at_120) rfl (decide_eq_true rfl) (by decide) (by decide) k) ?_
              show Go p e below _ (T39.setTop (mkF m 123 #[.val (.int p0), .val (.int ((p0 &&& (2147483647 : Int32)) % (7 : Int32))), .val (.ref w_INVOLUNTARY_WITH_CAUSE), .val (.ref w_CAUSE), .val (.ref w_CAUSE)] []))
              refine Go.of (fun _ k => XS.aload X39.here hx rfl (hb hby at_123) rfl rfl k) ?_
              show Go p e below _ (T39.setTop (mkF m 125 #[.val (.int p0), .val (.int ((p0 &&& (2147483647 : Int32)) % (7 : Int32))), .val (.ref w_INVOLUNTARY_WITH_CAUSE), .val (.ref w_CAUSE), .val (.ref w_CAUSE)] [(.ref w_CAUSE)]))
              obtain ⟨T40, X40, e40, st40⟩ := getS2 X39 hx hZ hown (host := "") (Or.inl (hw _ (List.mem_of_getElem? (i := 23) rfl))) Via.refl q39_0 S_RETIREMENT (g := (mkF m 125 #[.val (.int p0), .val (.int ((p0 &&& (2147483647 : Int32)) % (7 : Int32))), .val (.ref w_INVOLUNTARY_WITH_CAUSE), .val (.ref w_CAUSE), .val (.ref w_CAUSE)] [(.ref w_CAUSE)])) rfl (hb hby at_125)
              refine Go.of st40 ?_
              show Go p e below _ (T40.setTop (mkF m 128 #[.val (.int p0), .val (.int ((p0 &&& (2147483647 : Int32)) % (7 : Int32))), .val (.ref w_INVOLUNTARY_WITH_CAUSE), .val (.ref w_CAUSE), .val (.ref w_CAUSE)] [(.ref w_RETIREMENT), (.ref w_CAUSE)]))
              refine Go.of (fun _ k => Jvm.RoadKit.acmp (g := (mkF m 128 #[.val (.int p0), .val (.int ((p0 &&& (2147483647 : Int32)) % (7 : Int32))), .val (.ref w_INVOLUNTARY_WITH_CAUSE), .val (.ref w_CAUSE), .val (.ref w_CAUSE)] [(.ref w_RETIREMENT), (.ref w_CAUSE)])) X40 hx rfl rfl rfl (pc0 := 128) (pc' := 131) (same := false) rfl (hb hby at_128) rfl (decide_eq_false fun q => ne_w_CAUSE_w_RETIREMENT (Value.ref.inj q)) (by decide) (by decide) k) ?_
              show Go p e below _ (T40.setTop (mkF m 131 #[.val (.int p0), .val (.int ((p0 &&& (2147483647 : Int32)) % (7 : Int32))), .val (.ref w_INVOLUNTARY_WITH_CAUSE), .val (.ref w_CAUSE), .val (.ref w_CAUSE)] []))
              refine Go.of (fun _ k => XS.iconst X40.here hx rfl (hb hby at_131) k) ?_
              show Go p e below _ (T40.setTop (mkF m 132 #[.val (.int p0), .val (.int ((p0 &&& (2147483647 : Int32)) % (7 : Int32))), .val (.ref w_INVOLUNTARY_WITH_CAUSE), .val (.ref w_CAUSE), .val (.ref w_CAUSE)] [(.int (1 : Int32))]))
              refine Go.of (fun _ k => XS.goto X40.here hx rfl (pc0 := 132) (pc' := 136) rfl (hb hby at_132) (by decide) (by decide) k) ?_
              show Go p e below _ (T40.setTop (mkF m 136 #[.val (.int p0), .val (.int ((p0 &&& (2147483647 : Int32)) % (7 : Int32))), .val (.ref w_INVOLUNTARY_WITH_CAUSE), .val (.ref w_CAUSE), .val (.ref w_CAUSE)] [(.int (1 : Int32))]))
              obtain ⟨fs, hr, hrun, hended, hW, hsame⟩ := X40.leave (v := some (.int (1 : Int32))) (fun h => by rw [Bd.returns] at h; cases h)
              refine Go.mk _ _ ?_ hrun hended ⟨_, _, rfl, ?_, ⟨_, rfl⟩, hW, hsame.mono (by decide) (by decide)⟩
              · exact retN X40 hx (t := .boolean) Bd.returns (by simp) (hb hby at_136) hr
              · show Q0 Z p0 w_VOLUNTARY_OTHER w_VOLUNTARY w__SwitchMap_com_example_vestry_vestry_ledger_TerminationReason kSM w_RETIREMENT w_VOLUNTARY_GOOD_CAUSE w_GOOD_REASON w_VOLUNTARY_RETIREMENT w_INVOLUNTARY_OTHER w_WITHOUT_CAUSE w_INVOLUNTARY_DEATH w_DEATH w_INVOLUNTARY_DISABILITY w_DISABILITY w_INVOLUNTARY_WITH_CAUSE w_CAUSE h0 n0 _ T40.heap _
                rw [e40]
                exact ⟨rfl, N39⟩
theorem own_len {args : Array Value} {s : State} {t : Term} {a : Addr} {k : Int32} (ev : t.eval args s none [] s = some (.ref a)) (h : (Jvm.Cond.eq (.length t) (.int k)).value args s none s [] = some true) : ∃ cl : Cell, s.arrayAt? a = some cl ∧ cl.slots.size < 2 ^ 31 ∧ cl.slots.size.toInt32 = k := by
  obtain ⟨x, y, h1, h2, k1, -⟩ := cmp_v (Or.inl h)
  cases h2
  obtain ⟨a', cl, e1, e2, e3⟩ := Term.length_spec h1
  cases ev.symm.trans e1
  subst e3
  refine ⟨cl, e2, ?_, ?_⟩
  · by_cases q : cl.slots.size < 2 ^ 31
    · exact q
    · simp [Term.eval, ev, e2, q] at h1
  · exact gotT (Cond.eq_ints h1 rfl) h
theorem own_eqI {args : Array Value} {s : State} {t : Term} {k : Int32} (h : (Jvm.Cond.eq t (.int k)).value args s none s [] = some true) : t.eval args s none [] s = some (.int k) := by
  obtain ⟨x, y, h1, h2, k1, -⟩ := cmp_v (Or.inl h)
  cases h2
  obtain ⟨z, rfl⟩ : ∃ z, x = .int z := by cases x <;> simp [Kin, Value.isRef] at k1 ⊢
  have e : z = k := gotT (Cond.eq_ints h1 rfl) h
  rw [h1, e]
theorem own_size {n : Nat} {k : Int32} (h : n < 2 ^ 31) (e : n.toInt32 = k) : (n : Int) = k.toInt := by rw [← e, len_toInt h]
theorem own_elemI {args : Array Value} {s : State} {t : Term} {w : Addr} {c : Cell} {j k : Int32} (ev : t.eval args s none [] s = some (.ref w)) (hc : s.heap[w]? = some c) (h : (Jvm.Cond.eq (.elem t (.int j)) (.int k)).value args s none s [] = some true) : c.slots[j.toNatClampNeg]? = some (.int k) :=
  (elem_in (own_eqI h) ev rfl hc).2
theorem own_rest {args : Array Value} {s : State} {C n d : String} {w : Addr} {c : Cell} (hfit : Fit s) (ev : (Term.static C n d).eval args s none [] s = some (.ref w)) (A : Arr s s.heap w c .int) (sm : c.slots.size < 2 ^ 31)
    (hall : (Jvm.Cond.all (Term.static C n d) (.or (.lt (.index 0) (.int 3)) (.eq (.op1 Jvm.Unary.i2l (.elem (Term.static C n d) (.index 0))) (.op2 Jvm.Binary.ladd (.op1 Jvm.Unary.i2l (.index 0)) (.long 1))))).value args s none s [] = some true)
    (i : Nat) (k : Int32) (hi : i < c.slots.size) (h3 : 3 ≤ i) (hk : (i : Int) + 1 = k.toInt) : c.slots[i]? = some (.int k) := by
  have e1 : (Nat.toInt32 i).toNatClampNeg = i := by simp only [Int32.toNatClampNeg, len_toInt (Nat.lt_trans hi sm)]; rfl
  have e2 : (Nat.toInt32 i).toInt = i := len_toInt (Nat.lt_trans hi sm)
  obtain ⟨v, q1, q2⟩ := elem_fit (j := Nat.toInt32 i) hfit A (idx_in hi sm)
  obtain ⟨x, rfl⟩ := fit_I q2 (by simp)
  rw [e1] at q1
  have h := Cond.all_elim ev (A.fin (Vm.Alike.refl _)) hall i hi
  have evi : (Term.static C n d).eval args s none [i] s = some (.ref w) := ev
  have ix : (Term.index 0).eval args s none [i] s = some (.int (Nat.toInt32 i)) := Term.index_eval _
  have el : (Term.elem (Term.static C n d) (.index 0)).eval args s none [i] s = some (.int x) := by
    rw [elem_f evi ix (A.fin (Vm.Alike.refl _)) (by rw [Int32.lt_iff_toInt_lt, e2]; show ¬ (i : Int) < 0; omega), e1]; exact q1
  have h1 : (Jvm.Cond.lt (.index 0) (.int 3)).value args s none s [i] = some (decide (Nat.toInt32 i < 3)) := by simp [Cond.value, ix, Term.eval]
  have h2 : (Jvm.Cond.eq (.op1 Jvm.Unary.i2l (.elem (Term.static C n d) (.index 0))) (.op2 Jvm.Binary.ladd (.op1 Jvm.Unary.i2l (.index 0)) (.long 1))).value args s none s [i] = some (decide (x.toInt64 = (Nat.toInt32 i).toInt64 + 1)) :=
    eq_L (by rw [op1_f el]; rfl) (by rw [op2_f (op1_f ix) rfl]; rfl)
  rcases or_e2 h1 h2 h with q | q
  · rw [Int32.lt_iff_toInt_lt, e2] at q
    have : (3 : Int32).toInt = 3 := rfl
    omega
  · have r := c_ladd (Nat.toInt32 i).toInt64 1
    rw [← q, c_i2l, c_i2l, e2] at r
    have o : (1 : Int64).toInt = 1 := rfl
    have b := rng32 x
    rw [o] at r
    have : x.toInt = k.toInt := by omega
    rw [q1, Int32.toInt_inj.mp this]
theorem own_switch {args : Array Value} {s : State} {C n d : String} {w : Addr} (hfit : Fit s) (ev : (Term.static C n d).eval args s none [] s = some (.ref w)) (ha : (Jvm.Cond.arrayOf (Term.static C n d) .int).value args s none s [] = some true) (hl : (Jvm.Cond.eq (.length (Term.static C n d)) (.int 7)).value args s none s [] = some true)
    (h0 : (Jvm.Cond.eq (.elem (Term.static C n d) (.int 0)) (.int 1)).value args s none s [] = some true) (h1 : (Jvm.Cond.eq (.elem (Term.static C n d) (.int 1)) (.int 3)).value args s none s [] = some true) (h2 : (Jvm.Cond.eq (.elem (Term.static C n d) (.int 2)) (.int 2)).value args s none s [] = some true)
    (hall : (Jvm.Cond.all (Term.static C n d) (.or (.lt (.index 0) (.int 3)) (.eq (.op1 Jvm.Unary.i2l (.elem (Term.static C n d) (.index 0))) (.op2 Jvm.Binary.ladd (.op1 Jvm.Unary.i2l (.index 0)) (.long 1))))).value args s none s [] = some true) :
    ∃ k, Arv s s.heap w k .int (7 : Int32) [(.int (1 : Int32)), (.int (3 : Int32)), (.int (2 : Int32)), (.int (4 : Int32)), (.int (5 : Int32)), (.int (6 : Int32)), (.int (7 : Int32))] (.int (0 : Int32)) := by
  obtain ⟨c, A⟩ := Arr.start ev ha
  obtain ⟨cl, e1, sm, e2⟩ := own_len ev hl
  cases e1.symm.trans (A.fin (Vm.Alike.refl _))
  have sz : c.slots.size = 7 := by have := own_size sm e2; have : (7 : Int32).toInt = 7 := rfl; omega
  refine ⟨c.cls, Arv.start hfit A sm e2 (by decide) rfl ⟨own_elemI ev A.1 h0, own_elemI ev A.1 h1, own_elemI ev A.1 h2, ?_, ?_, ?_, ?_, trivial⟩⟩
  · exact own_rest hfit ev A sm hall 3 4 (by omega) (by omega) rfl
  · exact own_rest hfit ev A sm hall 4 5 (by omega) (by omega) rfl
  · exact own_rest hfit ev A sm hall 5 6 (by omega) (by omega) rfl
  · exact own_rest hfit ev A sm hall 6 7 (by omega) (by omega) rfl

set_option maxRecDepth 65536 in
set_option maxHeartbeats 40000000 in
theorem comes_1 {Post : Tables → Env → Array Value → State → Outcome → State → Prop} (hpost : ∀ tb e args s v u, (limb_1_1.after args s (.returned v) u = true ∧ limb_1_2.after args s (.returned v) u = true ∧ True) → FrameEnd s (.returned v) u (Jvm.fieldLocs frame_1_writes args s ++ Jvm.arrayLocs frame_1_arrays args s ++ Jvm.staticLocs frame_1_statics s) 0 0 → Post tb e args s (.returned v) u) :
    ArmFor flags0 classFile x code maxLocals ret World_1 tables_1 room_1 Calls_1 rest_1 Pre_1 Post := by
  intro l hfl _ _ p e ha hc hk s m args below hf hA hF happ hP
  obtain ⟨hcalls, hrest, hpre⟩ := hP
  obtain ⟨-, -, -, hnamed, -, -, -, hat⟩ := (Spec.applies_iff hf).mp happ
  obtain ⟨hg, hn⟩ := and_e (Cond.before_iff.mp (show (Jvm.Cond.and given_1 narrow_1).before args s = true from hpre))
  obtain ⟨g1, g2⟩ := and_e hg
  obtain ⟨w0, rfl⟩ : ∃ w0 : Value, args = #[w0] := by
    have hs : args.size = 1 := by simpa [Cond.value, given_1] using g1
    obtain ⟨L⟩ := args
    match L, hs with
    | [w0], _ => exact ⟨w0, rfl⟩
  have hw := fun d (hd : d ∈ tables_1) => atoms_spec (ws := Jvm.Cond.code x code maxLocals ret :: tables_1) hat d (List.mem_cons_of_mem _ hd)
  have hfit : Fit s := fun {y c} hc i hi => by
    obtain ⟨ha, rfl⟩ := Array.getElem?_eq_some_iff.mp hc
    have q := List.all_eq_true.mp ((Array.all_eq_true_iff_forall_mem.mp hF) _ (Array.getElem_mem ha)) i (List.mem_range.mpr hi)
    simpa [Array.getElem?_eq_getElem hi] using q
  obtain ⟨i0, ei0⟩ := is_v g2
  obtain rfl : w0 = (.int i0) := Option.some.inj ei0
  obtain ⟨g3, g4⟩ := and_e hn
  obtain ⟨g5, g6⟩ := and_e g4
  obtain ⟨g7, g8⟩ := and_e g6
  obtain ⟨g9, g10⟩ := and_e g8
  obtain ⟨g11, g12⟩ := and_e g10
  obtain ⟨g13, g14⟩ := and_e g12
  obtain ⟨g15, g16⟩ := and_e g14
  obtain ⟨g17, g18⟩ := and_e g16
  obtain ⟨g19, g20⟩ := and_e g18
  obtain ⟨g21, g22⟩ := and_e g20
  obtain ⟨g23, g24⟩ := and_e g22
  obtain ⟨g25, g26⟩ := and_e g24
  obtain ⟨g27, g28⟩ := and_e g26
  obtain ⟨g29, g30⟩ := and_e g28
  obtain ⟨g31, g32⟩ := and_e g30
  obtain ⟨g33, g34⟩ := and_e g32
  obtain ⟨g35, g36⟩ := and_e g34
  obtain ⟨g37, g38⟩ := and_e g36
  obtain ⟨g39, g40⟩ := and_e g38
  obtain ⟨g41, g42⟩ := and_e g40
  obtain ⟨g43, g44⟩ := and_e g42
  obtain ⟨g45, g46⟩ := and_e g44
  obtain ⟨g47, g48⟩ := and_e g46
  obtain ⟨g49, g50⟩ := and_e g48
  obtain ⟨g51, g52⟩ := and_e g50
  obtain ⟨g53, g54⟩ := and_e g52
  obtain ⟨g55, g56⟩ := and_e g54
  obtain ⟨g57, g58⟩ := and_e g56
  obtain ⟨g59, g60⟩ := and_e g58
  obtain ⟨g61, g62⟩ := and_e g60
  obtain ⟨g63, g64⟩ := and_e g62
  obtain ⟨g65, g66⟩ := and_e g64
  obtain ⟨g67, g68⟩ := and_e g66
  obtain ⟨w_VOLUNTARY_OTHER, ev_VOLUNTARY_OTHER, E_w_VOLUNTARY_OTHER⟩ := own_sta g3
  have S_VOLUNTARY_OTHER := Sta.start ev_VOLUNTARY_OTHER (Or.inr ⟨(hw _ (List.mem_of_getElem? (i := 2) rfl)), (hw _ (List.mem_of_getElem? (i := 3) rfl))⟩)
  obtain ⟨w_VOLUNTARY, ev_VOLUNTARY, E_w_VOLUNTARY⟩ := own_sta g5
  have S_VOLUNTARY := Sta.start ev_VOLUNTARY (Or.inr ⟨(hw _ (List.mem_of_getElem? (i := 5) rfl)), (hw _ (List.mem_of_getElem? (i := 6) rfl))⟩)
  obtain ⟨w_RETIREMENT, ev_RETIREMENT, E_w_RETIREMENT⟩ := own_sta g13
  have S_RETIREMENT := Sta.start ev_RETIREMENT (Or.inr ⟨(hw _ (List.mem_of_getElem? (i := 5) rfl)), (hw _ (List.mem_of_getElem? (i := 24) rfl))⟩)
  obtain ⟨w_INVOLUNTARY_OTHER, ev_INVOLUNTARY_OTHER, E_w_INVOLUNTARY_OTHER⟩ := own_sta g19
  have S_INVOLUNTARY_OTHER := Sta.start ev_INVOLUNTARY_OTHER (Or.inr ⟨(hw _ (List.mem_of_getElem? (i := 2) rfl)), (hw _ (List.mem_of_getElem? (i := 26) rfl))⟩)
  obtain ⟨w_WITHOUT_CAUSE, ev_WITHOUT_CAUSE, E_w_WITHOUT_CAUSE⟩ := own_sta g21
  have S_WITHOUT_CAUSE := Sta.start ev_WITHOUT_CAUSE (Or.inr ⟨(hw _ (List.mem_of_getElem? (i := 5) rfl)), (hw _ (List.mem_of_getElem? (i := 28) rfl))⟩)
  obtain ⟨w_INVOLUNTARY_DISABILITY, ev_INVOLUNTARY_DISABILITY, E_w_INVOLUNTARY_DISABILITY⟩ := own_sta g27
  have S_INVOLUNTARY_DISABILITY := Sta.start ev_INVOLUNTARY_DISABILITY (Or.inr ⟨(hw _ (List.mem_of_getElem? (i := 2) rfl)), (hw _ (List.mem_of_getElem? (i := 31) rfl))⟩)
  obtain ⟨w_DISABILITY, ev_DISABILITY, E_w_DISABILITY⟩ := own_sta g29
  have S_DISABILITY := Sta.start ev_DISABILITY (Or.inr ⟨(hw _ (List.mem_of_getElem? (i := 5) rfl)), (hw _ (List.mem_of_getElem? (i := 33) rfl))⟩)
  obtain ⟨w_INVOLUNTARY_WITH_CAUSE, ev_INVOLUNTARY_WITH_CAUSE, E_w_INVOLUNTARY_WITH_CAUSE⟩ := own_sta g35
  have S_INVOLUNTARY_WITH_CAUSE := Sta.start ev_INVOLUNTARY_WITH_CAUSE (Or.inr ⟨(hw _ (List.mem_of_getElem? (i := 2) rfl)), (hw _ (List.mem_of_getElem? (i := 36) rfl))⟩)
  obtain ⟨w_CAUSE, ev_CAUSE, E_w_CAUSE⟩ := own_sta g37
  have S_CAUSE := Sta.start ev_CAUSE (Or.inr ⟨(hw _ (List.mem_of_getElem? (i := 5) rfl)), (hw _ (List.mem_of_getElem? (i := 38) rfl))⟩)
  obtain ⟨w_INVOLUNTARY_DEATH, ev_INVOLUNTARY_DEATH, E_w_INVOLUNTARY_DEATH⟩ := own_sta g43
  have S_INVOLUNTARY_DEATH := Sta.start ev_INVOLUNTARY_DEATH (Or.inr ⟨(hw _ (List.mem_of_getElem? (i := 2) rfl)), (hw _ (List.mem_of_getElem? (i := 41) rfl))⟩)
  obtain ⟨w_DEATH, ev_DEATH, E_w_DEATH⟩ := own_sta g45
  have S_DEATH := Sta.start ev_DEATH (Or.inr ⟨(hw _ (List.mem_of_getElem? (i := 5) rfl)), (hw _ (List.mem_of_getElem? (i := 43) rfl))⟩)
  obtain ⟨w_VOLUNTARY_RETIREMENT, ev_VOLUNTARY_RETIREMENT, E_w_VOLUNTARY_RETIREMENT⟩ := own_sta g51
  have S_VOLUNTARY_RETIREMENT := Sta.start ev_VOLUNTARY_RETIREMENT (Or.inr ⟨(hw _ (List.mem_of_getElem? (i := 2) rfl)), (hw _ (List.mem_of_getElem? (i := 46) rfl))⟩)
  obtain ⟨w_VOLUNTARY_GOOD_CAUSE, ev_VOLUNTARY_GOOD_CAUSE, E_w_VOLUNTARY_GOOD_CAUSE⟩ := own_sta g55
  have S_VOLUNTARY_GOOD_CAUSE := Sta.start ev_VOLUNTARY_GOOD_CAUSE (Or.inr ⟨(hw _ (List.mem_of_getElem? (i := 2) rfl)), (hw _ (List.mem_of_getElem? (i := 48) rfl))⟩)
  obtain ⟨w_GOOD_REASON, ev_GOOD_REASON, E_w_GOOD_REASON⟩ := own_sta g57
  have S_GOOD_REASON := Sta.start ev_GOOD_REASON (Or.inr ⟨(hw _ (List.mem_of_getElem? (i := 5) rfl)), (hw _ (List.mem_of_getElem? (i := 50) rfl))⟩)
  have F_w_VOLUNTARY_OTHER_ordinal := own_fldI ev_VOLUNTARY_OTHER g11
  have F_w_VOLUNTARY_ordinal := own_fldI ev_VOLUNTARY g15
  have F_w_RETIREMENT_ordinal := own_fldI ev_RETIREMENT g17
  have F_w_INVOLUNTARY_OTHER_ordinal := own_fldI ev_INVOLUNTARY_OTHER g23
  have F_w_WITHOUT_CAUSE_ordinal := own_fldI ev_WITHOUT_CAUSE g25
  have F_w_INVOLUNTARY_DISABILITY_ordinal := own_fldI ev_INVOLUNTARY_DISABILITY g31
  have F_w_DISABILITY_ordinal := own_fldI ev_DISABILITY g33
  have F_w_INVOLUNTARY_WITH_CAUSE_ordinal := own_fldI ev_INVOLUNTARY_WITH_CAUSE g39
  have F_w_CAUSE_ordinal := own_fldI ev_CAUSE g41
  have F_w_INVOLUNTARY_DEATH_ordinal := own_fldI ev_INVOLUNTARY_DEATH g47
  have F_w_DEATH_ordinal := own_fldI ev_DEATH g49
  have F_w_VOLUNTARY_RETIREMENT_ordinal := own_fldI ev_VOLUNTARY_RETIREMENT g53
  have F_w_VOLUNTARY_GOOD_CAUSE_ordinal := own_fldI ev_VOLUNTARY_GOOD_CAUSE g59
  have F_w_GOOD_REASON_ordinal := own_fldI ev_GOOD_REASON g61
  obtain ⟨w__SwitchMap_com_example_vestry_vestry_ledger_TerminationReason, evSM⟩ := arr_v g7
  have S__SwitchMap_com_example_vestry_vestry_ledger_TerminationReason := Sta.start evSM (Or.inr ⟨(hw _ (List.mem_of_getElem? (i := 11) rfl)), (hw _ (List.mem_of_getElem? (i := 12) rfl))⟩)
  obtain ⟨kSM, V_w__SwitchMap_com_example_vestry_vestry_ledger_TerminationReason⟩ := own_switch hfit evSM g7 g9 g63 g65 g67 g68
  obtain ⟨n, o, h1, h2, h3, _, L, rfl, ⟨rfl, N⟩, hq⟩ := rm0 l s _ hw tables_1 i0 w_VOLUNTARY_OTHER w_VOLUNTARY w__SwitchMap_com_example_vestry_vestry_ledger_TerminationReason kSM w_RETIREMENT w_VOLUNTARY_GOOD_CAUSE w_GOOD_REASON w_VOLUNTARY_RETIREMENT w_INVOLUNTARY_OTHER w_WITHOUT_CAUSE w_INVOLUNTARY_DEATH w_DEATH w_INVOLUNTARY_DISABILITY w_DISABILITY w_INVOLUNTARY_WITH_CAUSE w_CAUSE s.heap s.heap.size (Nat.le_refl _) S_VOLUNTARY_OTHER S_VOLUNTARY S__SwitchMap_com_example_vestry_vestry_ledger_TerminationReason F_w_VOLUNTARY_OTHER_ordinal E_w_VOLUNTARY_OTHER V_w__SwitchMap_com_example_vestry_vestry_ledger_TerminationReason S_RETIREMENT (Fld.ne F_w_RETIREMENT_ordinal F_w_VOLUNTARY_ordinal (by simp)) S_VOLUNTARY_GOOD_CAUSE S_GOOD_REASON F_w_VOLUNTARY_GOOD_CAUSE_ordinal E_w_VOLUNTARY_GOOD_CAUSE (Fld.ne F_w_GOOD_REASON_ordinal F_w_RETIREMENT_ordinal (by simp)) S_VOLUNTARY_RETIREMENT F_w_VOLUNTARY_RETIREMENT_ordinal E_w_VOLUNTARY_RETIREMENT S_INVOLUNTARY_OTHER S_WITHOUT_CAUSE F_w_INVOLUNTARY_OTHER_ordinal E_w_INVOLUNTARY_OTHER (Fld.ne F_w_RETIREMENT_ordinal F_w_WITHOUT_CAUSE_ordinal (by simp)) S_INVOLUNTARY_DEATH S_DEATH F_w_INVOLUNTARY_DEATH_ordinal E_w_INVOLUNTARY_DEATH (Fld.ne F_w_DEATH_ordinal F_w_RETIREMENT_ordinal (by simp)) S_INVOLUNTARY_DISABILITY S_DISABILITY F_w_INVOLUNTARY_DISABILITY_ordinal E_w_INVOLUNTARY_DISABILITY (Fld.ne F_w_DISABILITY_ordinal F_w_RETIREMENT_ordinal (by simp)) S_INVOLUNTARY_WITH_CAUSE S_CAUSE F_w_INVOLUNTARY_WITH_CAUSE_ordinal E_w_INVOLUNTARY_WITH_CAUSE (Fld.ne F_w_CAUSE_ordinal F_w_RETIREMENT_ordinal (by simp)) p e ha hc hk s m _ below hf ((Spec.applies_iff_loose hf).mp happ).1 ⟨rfl, State.Warmed39.refl s, rfl⟩ trivial
  refine ⟨n, _, h1, h2, h3, hpost _ _ _ _ _ _ ⟨Cond.after_iff.mpr rfl, Cond.after_iff.mpr (eq_i res_at (Term.int_eval (1)) rfl), trivial⟩ ⟨hq.1, hq.2.1, (hq.2.2.sift fun y hy => Or.inr (N y hy)).mono (by decide) (by decide)⟩⟩
theorem main_1_1 : Claimed_1_1 := comes_1 fun _ _ _ _ _ _ h hF => ⟨h.1, hF⟩
theorem main_1_2 : Claimed_1_2 := comes_1 fun _ _ _ _ _ _ h hF => ⟨h.2.1, hF⟩
end Jvm.Pilot.@@N@@
namespace Jvm.Pilot.@@N@@
open Jvm Jvm.ClassFile Sem Op Lib Jvm.Free Jvm.Stand Jvm.Pilot.@@N@@.Jvm.D
/-! MADE BY PROGRAM (witnessworld.py) out of the Statement's table words and the real class files: 14 classes; the members and pool entries that the words name. The judged class is class 1, her method 1. -/
namespace start1
open Jvm.ClassFile
def u (s : String) : CpInfo := .utf8 (stringToUtf16 s)
/-- a pool by its gaps: so many unusable entries, then the entry; so many at the end -/
def gap : Nat → List CpInfo → List CpInfo
  | 0, r => r
  | n + 1, r => .unusable :: gap n r
def poolList (es : List (Nat × CpInfo)) (last : Nat) : List CpInfo := es.foldr (fun e r => gap e.1 (e.2 :: r)) (gap last [])
def pool (es : List (Nat × CpInfo)) (last : Nat) : Array CpInfo := ⟨poolList es last⟩
def fileOf (pool : Array CpInfo) (this : Nat) (attrs : Array Attribute := #[]) (ms : Array MethodInfo := #[]) (fl : Nat := 33) (sup : Nat := 0) (ifs : Array Nat := #[]) (fds : Array FieldInfo := #[]) : ClassFile where
  minorVersion := 0
  majorVersion := 65
  constantPool := pool
  accessFlags := fl
  thisClass := this
  superClass := sup
  interfaces := ifs
  fields := fds
  methods := ms
  attributes := attrs
def plain (name : String) (sup : Option ClassId) : Class where
  name := name
  kind := .ordinary
  loader := none
  accessFlags := 33
  super := sup
  interfaces := #[]
  cf := none
  fields := #[]
  methods := #[]
  instanceTypes := #[]
  staticTypes := #[]
  resolved := #[]
  callSites := []
  init := .initialized
  statics := none
  mirror := none

def pool0 : Array CpInfo := pool [(5, u "<init>"), (0, u "()V"), (1, .class_ 10), (1, u "java/lang/Object")] 113

def k0m0 : Method := { name := "<init>", desc := "()V", sig := { parameters := [], returnType := none }, accessFlags := 1, code := none }
/-- java/lang/Object -/
def k0 : Class := { plain "java/lang/Object" none with
  accessFlags := 33
  interfaces := #[]
  cf := some (fileOf pool0 8 #[] #[{ accessFlags := 1, nameIndex := 5, descriptorIndex := 6, attributes := #[] }] 33 0 #[] #[])
  fields := #[]
  methods := #[k0m0]
  instanceTypes := #[]
  staticTypes := #[]
  resolved := Array.replicate 124 none
  statics := none }

def pool1 : Array CpInfo := pool [(2, .class_ 4), (1, u "java/lang/Object"), (0, u "<init>"), (0, u "()V"), (0, .integer 2147483647), (0, .fieldref 9 10), (0, .class_ 11), (0, .nameAndType 12 13), (0, u "com/example/vestry/vestry/ledger/TerminationReason"), (0, u "VOLUNTARY_OTHER"), (0, u "Lcom/example/vestry/vestry/ledger/TerminationReason;"), (0, .fieldref 15 16), (0, .class_ 17), (0, .nameAndType 18 19), (0, u "com/example/vestry/vestry/plan/TerminationCategory"), (0, u "VOLUNTARY"), (0, u "Lcom/example/vestry/vestry/plan/TerminationCategory;"), (0, .fieldref 9 21), (0, .nameAndType 22 13), (0, u "VOLUNTARY_GOOD_CAUSE"), (0, .fieldref 15 24), (0, .nameAndType 25 19), (0, u "GOOD_REASON"), (0, .fieldref 9 27), (0, .nameAndType 28 13), (0, u "VOLUNTARY_RETIREMENT"), (0, .fieldref 9 30), (0, .nameAndType 31 13), (0, u "INVOLUNTARY_OTHER"), (0, .fieldref 15 33), (0, .nameAndType 34 19), (0, u "WITHOUT_CAUSE"), (0, .fieldref 9 36), (0, .nameAndType 37 13), (0, u "INVOLUNTARY_DEATH"), (0, .fieldref 15 39), (0, .nameAndType 40 19), (0, u "DEATH"), (0, .fieldref 9 42), (0, .nameAndType 43 13), (0, u "INVOLUNTARY_DISABILITY"), (0, .fieldref 15 45), (0, .nameAndType 46 19), (0, u "DISABILITY"), (0, .fieldref 9 48), (0, .nameAndType 49 13), (0, u "INVOLUNTARY_WITH_CAUSE"), (0, .fieldref 15 51), (0, .nameAndType 52 19), (0, u "CAUSE"), (0, .methodref 15 54), (0, .nameAndType 55 56), (0, u "named"), (0, u "(Lcom/example/vestry/vestry/ledger/TerminationReason;)Lcom/example/vestry/vestry/plan/TerminationCategory;"), (0, .fieldref 15 58), (0, .nameAndType 59 19), (0, u "RETIREMENT"), (0, .class_ 61), (0, u "com/example/vestry/vestry/plan/TerminationCategoryNamedPinLaw"), (2, u "law"), (0, u "(I)Z")] 3

def k1m0 : Method := { name := "<init>", desc := "()V", sig := { parameters := [], returnType := none }, accessFlags := 1, code := none }
def k1c1 : Code := { maxStack := 2, maxLocals := 5, code := code, exceptionTable := #[], attributes := #[] }
def k1m1 : Method := { name := "law", desc := "(I)Z", sig := { parameters := [.int], returnType := some .boolean }, accessFlags := 9, code := some k1c1 }
/-- com/example/vestry/vestry/plan/TerminationCategoryNamedPinLaw -/
def k1 : Class := { plain "com/example/vestry/vestry/plan/TerminationCategoryNamedPinLaw" (some 0) with
  accessFlags := 49
  interfaces := #[]
  cf := some (fileOf pool1 60 #[] #[{ accessFlags := 1, nameIndex := 5, descriptorIndex := 6, attributes := #[] }, { accessFlags := 9, nameIndex := 64, descriptorIndex := 65, attributes := #[] }] 49 2 #[] #[])
  fields := #[]
  methods := #[k1m0, k1m1]
  instanceTypes := #[]
  staticTypes := #[]
  resolved := Array.replicate 69 none
  statics := none }

def pool2 : Array CpInfo := pool [(1, .class_ 2), (0, u "java/lang/constant/Constable"), (0, .class_ 4), (0, u "java/lang/Object")] 6

/-- java/lang/constant/Constable -/
def k2 : Class := { plain "java/lang/constant/Constable" (some 0) with
  accessFlags := 1537
  interfaces := #[]
  cf := some (fileOf pool2 1 #[] #[] 1537 3 #[] #[])
  fields := #[]
  methods := #[]
  instanceTypes := #[]
  staticTypes := #[]
  resolved := Array.replicate 11 none
  statics := none }

def pool3 : Array CpInfo := pool [(1, .class_ 2), (0, u "java/lang/Comparable"), (0, .class_ 4), (0, u "java/lang/Object")] 7

/-- java/lang/Comparable -/
def k3 : Class := { plain "java/lang/Comparable" (some 0) with
  accessFlags := 1537
  interfaces := #[]
  cf := some (fileOf pool3 1 #[] #[] 1537 3 #[] #[])
  fields := #[]
  methods := #[]
  instanceTypes := #[]
  staticTypes := #[]
  resolved := Array.replicate 12 none
  statics := none }

def pool4 : Array CpInfo := pool [(1, .class_ 2), (0, u "java/io/Serializable"), (0, .class_ 4), (0, u "java/lang/Object")] 2

/-- java/io/Serializable -/
def k4 : Class := { plain "java/io/Serializable" (some 0) with
  accessFlags := 1537
  interfaces := #[]
  cf := some (fileOf pool4 1 #[] #[] 1537 3 #[] #[])
  fields := #[]
  methods := #[]
  instanceTypes := #[]
  staticTypes := #[]
  resolved := Array.replicate 7 none
  statics := none }

def pool5 : Array CpInfo := pool [(2, .class_ 4), (1, u "java/lang/Enum"), (0, u "name"), (0, u "Ljava/lang/String;"), (0, .fieldref 2 8), (0, .nameAndType 9 10), (0, u "ordinal"), (0, u "I"), (1, .class_ 14), (1, u "java/lang/Object"), (4, u "hash"), (86, .class_ 108), (1, u "java/lang/Enum$EnumDesc"), (2, .class_ 112), (0, u "java/lang/constant/Constable"), (0, .class_ 114), (0, u "java/lang/Comparable"), (0, .class_ 116), (0, u "java/io/Serializable"), (9, u "()I")] 77

def k5c0 : Code := { maxStack := 1, maxLocals := 1, code := jdk_37_method_2_code, exceptionTable := #[], attributes := #[] }
def k5m0 : Method := { name := "ordinal", desc := "()I", sig := { parameters := [], returnType := some .int }, accessFlags := 17, code := some k5c0 }
/-- java/lang/Enum -/
def k5 : Class := { plain "java/lang/Enum" (some 0) with
  accessFlags := 1057
  interfaces := #[2, 3, 4]
  cf := some (fileOf pool5 2 #[.nestMembers #[106]] #[{ accessFlags := 17, nameIndex := 9, descriptorIndex := 126, attributes := #[] }] 1057 12 #[111, 113, 115] #[{ accessFlags := 18, nameIndex := 5, descriptorIndex := 6, attributes := #[] }, { accessFlags := 18, nameIndex := 9, descriptorIndex := 10, attributes := #[] }, { accessFlags := 2, nameIndex := 19, descriptorIndex := 10, attributes := #[] }])
  fields := #[{ name := "name", type := (.object "java/lang/String"), accessFlags := 18, slot := 0, constantValue := 0 }, { name := "ordinal", type := .int, accessFlags := 18, slot := 1, constantValue := 0 }, { name := "hash", type := .int, accessFlags := 2, slot := 2, constantValue := 0 }]
  methods := #[k5m0]
  instanceTypes := #[(.object "java/lang/String"), .int, .int]
  staticTypes := #[]
  resolved := Array.replicate 204 none
  statics := none }

def pool6 : Array CpInfo := pool [(1, .class_ 2), (0, u "com/example/vestry/vestry/ledger/TerminationReason"), (2, u "VOLUNTARY_OTHER"), (0, u "Lcom/example/vestry/vestry/ledger/TerminationReason;"), (2, u "VOLUNTARY_GOOD_CAUSE"), (2, u "VOLUNTARY_RETIREMENT"), (2, u "INVOLUNTARY_OTHER"), (2, u "INVOLUNTARY_DEATH"), (2, u "INVOLUNTARY_DISABILITY"), (2, u "INVOLUNTARY_WITH_CAUSE"), (2, u "$VALUES"), (0, u "[Lcom/example/vestry/vestry/ledger/TerminationReason;"), (6, .class_ 37), (1, u "java/lang/Enum")] 29

/-- com/example/vestry/vestry/ledger/TerminationReason -/
def k6 : Class := { plain "com/example/vestry/vestry/ledger/TerminationReason" (some 5) with
  accessFlags := 16433
  interfaces := #[]
  cf := some (fileOf pool6 1 #[] #[] 16433 35 #[] #[{ accessFlags := 16409, nameIndex := 5, descriptorIndex := 6, attributes := #[] }, { accessFlags := 16409, nameIndex := 9, descriptorIndex := 6, attributes := #[] }, { accessFlags := 16409, nameIndex := 12, descriptorIndex := 6, attributes := #[] }, { accessFlags := 16409, nameIndex := 15, descriptorIndex := 6, attributes := #[] }, { accessFlags := 16409, nameIndex := 18, descriptorIndex := 6, attributes := #[] }, { accessFlags := 16409, nameIndex := 21, descriptorIndex := 6, attributes := #[] }, { accessFlags := 16409, nameIndex := 24, descriptorIndex := 6, attributes := #[] }, { accessFlags := 4122, nameIndex := 27, descriptorIndex := 28, attributes := #[] }])
  fields := #[{ name := "VOLUNTARY_OTHER", type := (.object "com/example/vestry/vestry/ledger/TerminationReason"), accessFlags := 16409, slot := 0, constantValue := 0 }, { name := "VOLUNTARY_GOOD_CAUSE", type := (.object "com/example/vestry/vestry/ledger/TerminationReason"), accessFlags := 16409, slot := 1, constantValue := 0 }, { name := "VOLUNTARY_RETIREMENT", type := (.object "com/example/vestry/vestry/ledger/TerminationReason"), accessFlags := 16409, slot := 2, constantValue := 0 }, { name := "INVOLUNTARY_OTHER", type := (.object "com/example/vestry/vestry/ledger/TerminationReason"), accessFlags := 16409, slot := 3, constantValue := 0 }, { name := "INVOLUNTARY_DEATH", type := (.object "com/example/vestry/vestry/ledger/TerminationReason"), accessFlags := 16409, slot := 4, constantValue := 0 }, { name := "INVOLUNTARY_DISABILITY", type := (.object "com/example/vestry/vestry/ledger/TerminationReason"), accessFlags := 16409, slot := 5, constantValue := 0 }, { name := "INVOLUNTARY_WITH_CAUSE", type := (.object "com/example/vestry/vestry/ledger/TerminationReason"), accessFlags := 16409, slot := 6, constantValue := 0 }, { name := "$VALUES", type := (.array (.object "com/example/vestry/vestry/ledger/TerminationReason")), accessFlags := 4122, slot := 7, constantValue := 0 }]
  methods := #[]
  instanceTypes := #[(.object "java/lang/String"), .int, .int]
  staticTypes := #[(.object "com/example/vestry/vestry/ledger/TerminationReason"), (.object "com/example/vestry/vestry/ledger/TerminationReason"), (.object "com/example/vestry/vestry/ledger/TerminationReason"), (.object "com/example/vestry/vestry/ledger/TerminationReason"), (.object "com/example/vestry/vestry/ledger/TerminationReason"), (.object "com/example/vestry/vestry/ledger/TerminationReason"), (.object "com/example/vestry/vestry/ledger/TerminationReason"), (.array (.object "com/example/vestry/vestry/ledger/TerminationReason"))]
  resolved := Array.replicate 67 none
  statics := some 0 }

def pool7 : Array CpInfo := pool [(1, .class_ 2), (0, u "com/example/vestry/vestry/plan/TerminationCategory"), (0, .fieldref 1 4), (0, .nameAndType 5 6), (0, u "DEATH"), (0, u "Lcom/example/vestry/vestry/plan/TerminationCategory;"), (0, .fieldref 1 8), (0, .nameAndType 9 6), (0, u "DISABILITY"), (2, u "RETIREMENT"), (0, .fieldref 1 14), (0, .nameAndType 15 6), (0, u "GOOD_REASON"), (0, .fieldref 1 17), (0, .nameAndType 18 6), (0, u "WITHOUT_CAUSE"), (0, .fieldref 1 20), (0, .nameAndType 21 6), (0, u "VOLUNTARY"), (0, .fieldref 1 23), (0, .nameAndType 24 6), (0, u "CAUSE"), (2, u "$VALUES"), (0, u "[Lcom/example/vestry/vestry/plan/TerminationCategory;"), (6, .class_ 37), (1, u "java/lang/Enum"), (6, .fieldref 45 46), (0, .class_ 47), (0, .nameAndType 48 49), (0, u "com/example/vestry/vestry/plan/TerminationCategory$1"), (0, u "$SwitchMap$com$example$vestry$vestry$ledger$TerminationReason"), (0, u "[I"), (0, .methodref 51 52), (0, .class_ 53), (0, .nameAndType 54 55), (0, u "com/example/vestry/vestry/ledger/TerminationReason"), (0, u "ordinal"), (0, u "()I"), (24, u "named"), (0, u "(Lcom/example/vestry/vestry/ledger/TerminationReason;)Lcom/example/vestry/vestry/plan/TerminationCategory;")] 7

def k7c0 : Code := { maxStack := 4, maxLocals := 1, code := prog_87_method_4_code, exceptionTable := #[], attributes := #[] }
def k7m0 : Method := { name := "named", desc := "(Lcom/example/vestry/vestry/ledger/TerminationReason;)Lcom/example/vestry/vestry/plan/TerminationCategory;", sig := { parameters := [(.object "com/example/vestry/vestry/ledger/TerminationReason")], returnType := some (.object "com/example/vestry/vestry/plan/TerminationCategory") }, accessFlags := 9, code := some k7c0 }
/-- com/example/vestry/vestry/plan/TerminationCategory -/
def k7 : Class := { plain "com/example/vestry/vestry/plan/TerminationCategory" (some 5) with
  accessFlags := 16433
  interfaces := #[]
  cf := some (fileOf pool7 1 #[.nestMembers #[45]] #[{ accessFlags := 9, nameIndex := 80, descriptorIndex := 81, attributes := #[] }] 16433 35 #[] #[{ accessFlags := 16409, nameIndex := 5, descriptorIndex := 6, attributes := #[] }, { accessFlags := 16409, nameIndex := 9, descriptorIndex := 6, attributes := #[] }, { accessFlags := 16409, nameIndex := 12, descriptorIndex := 6, attributes := #[] }, { accessFlags := 16409, nameIndex := 15, descriptorIndex := 6, attributes := #[] }, { accessFlags := 16409, nameIndex := 18, descriptorIndex := 6, attributes := #[] }, { accessFlags := 16409, nameIndex := 21, descriptorIndex := 6, attributes := #[] }, { accessFlags := 16409, nameIndex := 24, descriptorIndex := 6, attributes := #[] }, { accessFlags := 4122, nameIndex := 27, descriptorIndex := 28, attributes := #[] }])
  fields := #[{ name := "DEATH", type := (.object "com/example/vestry/vestry/plan/TerminationCategory"), accessFlags := 16409, slot := 0, constantValue := 0 }, { name := "DISABILITY", type := (.object "com/example/vestry/vestry/plan/TerminationCategory"), accessFlags := 16409, slot := 1, constantValue := 0 }, { name := "RETIREMENT", type := (.object "com/example/vestry/vestry/plan/TerminationCategory"), accessFlags := 16409, slot := 2, constantValue := 0 }, { name := "GOOD_REASON", type := (.object "com/example/vestry/vestry/plan/TerminationCategory"), accessFlags := 16409, slot := 3, constantValue := 0 }, { name := "WITHOUT_CAUSE", type := (.object "com/example/vestry/vestry/plan/TerminationCategory"), accessFlags := 16409, slot := 4, constantValue := 0 }, { name := "VOLUNTARY", type := (.object "com/example/vestry/vestry/plan/TerminationCategory"), accessFlags := 16409, slot := 5, constantValue := 0 }, { name := "CAUSE", type := (.object "com/example/vestry/vestry/plan/TerminationCategory"), accessFlags := 16409, slot := 6, constantValue := 0 }, { name := "$VALUES", type := (.array (.object "com/example/vestry/vestry/plan/TerminationCategory")), accessFlags := 4122, slot := 7, constantValue := 0 }]
  methods := #[k7m0]
  instanceTypes := #[(.object "java/lang/String"), .int, .int]
  staticTypes := #[(.object "com/example/vestry/vestry/plan/TerminationCategory"), (.object "com/example/vestry/vestry/plan/TerminationCategory"), (.object "com/example/vestry/vestry/plan/TerminationCategory"), (.object "com/example/vestry/vestry/plan/TerminationCategory"), (.object "com/example/vestry/vestry/plan/TerminationCategory"), (.object "com/example/vestry/vestry/plan/TerminationCategory"), (.object "com/example/vestry/vestry/plan/TerminationCategory"), (.array (.object "com/example/vestry/vestry/plan/TerminationCategory"))]
  resolved := Array.replicate 89 none
  statics := some 1 }

def pool8 : Array CpInfo := pool [(8, .class_ 10), (1, u "com/example/vestry/vestry/plan/TerminationCategory$1"), (0, u "$SwitchMap$com$example$vestry$vestry$ledger$TerminationReason"), (0, u "[I"), (28, .class_ 42), (0, u "java/lang/Object"), (8, .class_ 52), (0, u "com/example/vestry/vestry/plan/TerminationCategory")] 2

/-- com/example/vestry/vestry/plan/TerminationCategory$1 -/
def k8 : Class := { plain "com/example/vestry/vestry/plan/TerminationCategory$1" (some 0) with
  accessFlags := 4128
  interfaces := #[]
  cf := some (fileOf pool8 8 #[.nestHost 51] #[] 4128 41 #[] #[{ accessFlags := 4120, nameIndex := 11, descriptorIndex := 12, attributes := #[] }])
  fields := #[{ name := "$SwitchMap$com$example$vestry$vestry$ledger$TerminationReason", type := (.array .int), accessFlags := 4120, slot := 0, constantValue := 0 }]
  methods := #[]
  instanceTypes := #[]
  staticTypes := #[(.array .int)]
  resolved := Array.replicate 55 none
  statics := some 2 }

def pool9 : Array CpInfo := pool [(1, u "java/lang/Cloneable"), (0, .class_ 1), (0, u "java/lang/Object"), (0, .class_ 3)] 3

/-- java/lang/Cloneable -/
def k9 : Class := { plain "java/lang/Cloneable" (some 0) with
  accessFlags := 1537
  interfaces := #[]
  cf := some (fileOf pool9 2 #[] #[] 1537 4 #[] #[])
  fields := #[]
  methods := #[]
  instanceTypes := #[]
  staticTypes := #[]
  resolved := Array.replicate 8 none
  statics := none }

/-- the primitive byte -/
def k10 : Class := { plain "byte" none with kind := .primitive 'B', accessFlags := 0x411 }
/-- [B -/
def k11 : Class := { plain "[B" (some 0) with kind := .array 10 .byte, interfaces := #[9, 4], accessFlags := 1041 }

/-- the primitive int -/
def k12 : Class := { plain "int" none with kind := .primitive 'I', accessFlags := 0x411 }
/-- [I -/
def k13 : Class := { plain "[I" (some 0) with kind := .array 12 .int, interfaces := #[9, 4], accessFlags := 1041 }

def heap : Heap := #[{ cls := 6, slots := #[.ref 3, .ref 15, .ref 14, .ref 6, .ref 12, .ref 8, .ref 10, .null], vm := .statics 6 },
  { cls := 7, slots := #[.ref 13, .ref 9, .ref 5, .ref 16, .ref 7, .ref 4, .ref 11, .null], vm := .statics 7 },
  { cls := 8, slots := #[.ref 17], vm := .statics 8 },
  { cls := 6, slots := #[.null, .int 0, .int 0], vm := .none },
  { cls := 7, slots := #[.null, .int 5, .int 0], vm := .none },
  { cls := 7, slots := #[.null, .int 2, .int 0], vm := .none },
  { cls := 6, slots := #[.null, .int 3, .int 0], vm := .none },
  { cls := 7, slots := #[.null, .int 4, .int 0], vm := .none },
  { cls := 6, slots := #[.null, .int 5, .int 0], vm := .none },
  { cls := 7, slots := #[.null, .int 1, .int 0], vm := .none },
  { cls := 6, slots := #[.null, .int 6, .int 0], vm := .none },
  { cls := 7, slots := #[.null, .int 6, .int 0], vm := .none },
  { cls := 6, slots := #[.null, .int 4, .int 0], vm := .none },
  { cls := 7, slots := #[.null, .int 0, .int 0], vm := .none },
  { cls := 6, slots := #[.null, .int 2, .int 0], vm := .none },
  { cls := 6, slots := #[.null, .int 1, .int 0], vm := .none },
  { cls := 7, slots := #[.null, .int 3, .int 0], vm := .none },
  { cls := 13, slots := #[.int 1, .int 3, .int 2, .int 4, .int 5, .int 6, .int 7], vm := .none }]
def classes : Array Class := #[k0, k1, k2, k3, k4, k5, k6, k7, k8, k9, k10, k11, k12, k13]
def interned : List (Array UInt16 × Addr) := []
def slotsUsed : Nat := 66
def theMethod : MethodId := ⟨1, 1⟩
def args0 : Array Value := #[.int 5]
def aboutOver (below : List Frame) : State where
  vm := { classes := classes, interned := interned.toArray }
  heap := heap
  slotsUsed := slotsUsed
  threads := #[{ frames := .invoking theMethod args0 :: below }]
def below0 : List Frame := [.native { method := ⟨0, 0⟩, args := #[] }]
def about1 : State := aboutOver below0
def p0 : Program := .bare "" "" ""
def e0 : Env := launch0.env 0 0 0
theorem w_frames : about1.frames = Frame.invoking theMethod args0 :: below0 := rfl
set_option maxRecDepth 65536 in
theorem w_args : argsFit about1.vm theMethod args0 = true := by decide +kernel
set_option maxRecDepth 65536 in
theorem w_heap : heapFits about1 = true := by decide +kernel
set_option maxRecDepth 65536 in
theorem w_runnable : about1.curStatus? = some .runnable := by decide +kernel
set_option maxRecDepth 65536 in
theorem w_alone : about1.alone = true := by decide +kernel
set_option maxRecDepth 65536 in
theorem w_named : about1.methodNamed? x = some theMethod := by decide +kernel
set_option maxRecDepth 65536 in
theorem w_hears : about1.hears theMethod below0 = true := by decide +kernel
set_option maxRecDepth 65536 in
theorem w_ripe : about1.ripe theMethod args0 below0 = true := by decide +kernel
theorem w_running : about1.status = .running := rfl
set_option maxRecDepth 65536 in
theorem w_room : about1.hasRoom e0.platform room_1 = true :=
  launch0.hasRoom_least _ room_1 (by decide +kernel) (by decide +kernel) (by decide +kernel) (by decide +kernel) (by decide +kernel) (by decide +kernel)
theorem allAtoms_all (ts : List Jvm.Cond) (a : Array Jvm.Value) (st : Jvm.State) : (allAtoms ts).before a st = ts.all (fun c => c.before a st) := by
  induction ts with
  | nil => rfl
  | cons c t ih =>
    show (Jvm.Cond.and c (allAtoms t)).before a st = _
    rw [Jvm.Cond.before_and, ih, List.all_cons]
def words1 : List Jvm.Cond := Jvm.Cond.code x code maxLocals ret :: tables_1
/-- a 'code' word, met by the world's own term for the bytes: nothing is compared byte by byte -/
theorem code_word {y : MethodName} {bytes : ByteArray} {mx : Nat} {rt : Option FieldType} {a : Array Value} {s : State} {m : MethodId} {meth : Method} {c : Code} (h1 : s.methodNamed? y = some m) (h2 : s.vm.method? m = some meth) (h3 : meth.code = some c) (h4 : c.code = bytes)
    (h5 : (c.maxLocals == mx && c.exceptionTable.isEmpty && decide (c.maxStack ≤ mostOperands) && decide (meth.sig.returnType = rt) && !meth.locks && decide (parseMethodDescriptor y.desc = some meth.sig)) = true) : (Jvm.Cond.code y bytes mx rt).before a s = true := by
  simp only [Bool.and_eq_true, beq_iff_eq, Bool.not_eq_true', decide_eq_true_eq] at h5
  obtain ⟨⟨⟨⟨⟨g1, g2⟩, g3⟩, g4⟩, g5⟩, g6⟩ := h5
  simp [Cond.before, Cond.holds, Cond.value, h1, h2, h3, h4, g1, g2, g3, g4, g5, g6]
def isCode : Jvm.Cond → Bool
  | .code _ _ _ _ => true
  | _ => false
theorem all_split {L : List Jvm.Cond} {P : Jvm.Cond → Bool} (h1 : L.all (fun c => isCode c || P c) = true) (h2 : ∀ c ∈ L.filter isCode, P c = true) : L.all P = true := by
  refine List.all_eq_true.mpr fun c hc => ?_
  have h := List.all_eq_true.mp h1 c hc
  rcases Bool.eq_false_or_eq_true (isCode c) with hi | hi
  · exact h2 c (List.mem_filter.mpr ⟨hc, hi⟩)
  · simpa [hi] using h
set_option maxRecDepth 65536 in
theorem w_c0 : (Jvm.Cond.code x code maxLocals ret).before args0 about1 = true := code_word (m := ⟨1, 1⟩) (meth := k1m1) (c := k1c1) (by decide +kernel) rfl rfl rfl (by decide +kernel)
set_option maxRecDepth 65536 in
theorem w_c1 : (Jvm.Cond.code ({ cls := "com/example/vestry/vestry/plan/TerminationCategory", name := "named", desc := "(Lcom/example/vestry/vestry/ledger/TerminationReason;)Lcom/example/vestry/vestry/plan/TerminationCategory;" } : Jvm.MethodName) prog_87_method_4_code (1 : Nat) (Option.some (Jvm.ClassFile.FieldType.object "com/example/vestry/vestry/plan/TerminationCategory"))).before args0 about1 = true := code_word (m := ⟨7, 0⟩) (meth := k7m0) (c := k7c0) (by decide +kernel) rfl rfl rfl (by decide +kernel)
set_option maxRecDepth 65536 in
theorem w_c2 : (Jvm.Cond.code ({ cls := "java/lang/Enum", name := "ordinal", desc := "()I" } : Jvm.MethodName) jdk_37_method_2_code (1 : Nat) (Option.some Jvm.ClassFile.FieldType.int)).before args0 about1 = true := code_word (m := ⟨5, 0⟩) (meth := k5m0) (c := k5c0) (by decide +kernel) rfl rfl rfl (by decide +kernel)
def codes1 : List Jvm.Cond := [Jvm.Cond.code x code maxLocals ret, Jvm.Cond.code ({ cls := "com/example/vestry/vestry/plan/TerminationCategory", name := "named", desc := "(Lcom/example/vestry/vestry/ledger/TerminationReason;)Lcom/example/vestry/vestry/plan/TerminationCategory;" } : Jvm.MethodName) prog_87_method_4_code (1 : Nat) (Option.some (Jvm.ClassFile.FieldType.object "com/example/vestry/vestry/plan/TerminationCategory")), Jvm.Cond.code ({ cls := "java/lang/Enum", name := "ordinal", desc := "()I" } : Jvm.MethodName) jdk_37_method_2_code (1 : Nat) (Option.some Jvm.ClassFile.FieldType.int)]
set_option maxRecDepth 65536 in
theorem codes_eq : words1.filter isCode = codes1 := rfl
theorem w_codes : ∀ c ∈ words1.filter isCode, c.before args0 about1 = true := by
  rw [codes_eq]
  intro c hc
  simp only [codes1, List.mem_cons, List.not_mem_nil, or_false] at hc
  rcases hc with rfl | rfl | rfl
  · exact w_c0
  · exact w_c1
  · exact w_c2
set_option maxRecDepth 65536 in
theorem w_t1 : (words1.take 24).all (fun c => isCode c || c.before args0 about1) = true := by decide +kernel
set_option maxRecDepth 65536 in
theorem w_t2 : ((words1.drop 24).take 24).all (fun c => isCode c || c.before args0 about1) = true := by decide +kernel
set_option maxRecDepth 65536 in
theorem w_t3 : ((words1.drop 24).drop 24).all (fun c => isCode c || c.before args0 about1) = true := by decide +kernel
theorem w_tables : (allAtoms (Jvm.Cond.code x code maxLocals ret :: tables_1)).before args0 about1 = true := by
  rw [allAtoms_all]
  show words1.all (fun c => c.before args0 about1) = true
  refine all_split ?_ w_codes
  rw [← List.take_append_drop 24 words1, List.all_append, w_t1, ← List.take_append_drop 24 (words1.drop 24), List.all_append, w_t2, w_t3]
  rfl
set_option maxRecDepth 65536 in
theorem w_case : (Jvm.Cond.and given_1 narrow_1).before args0 about1 = true := by decide +kernel
theorem w_applies : (headSpec (Jvm.Cond.code x code maxLocals ret :: tables_1) room_1).applies x e0.platform about1 = true :=
  (Spec.applies_iff w_frames).mpr ⟨w_running, w_runnable, w_alone, w_named, w_hears, w_ripe, w_room, w_tables⟩
theorem atStart : AtStart classFile x code maxLocals ret World_1 tables_1 room_1 Calls_1 rest_1 Pre_1 launch0 p0 e0 about1 theMethod args0 below0 :=
  ⟨lists_1, trivial, launch0.admits_env _ _ _, launch0.least_env, fairChoices_fair.cas, fairChoices_fair.clock, w_frames, w_args, w_heap, w_applies, trivial, trivial, w_case⟩
end start1
theorem witness_1 : WitnessClaimed_1 := ⟨start1.p0, start1.e0, start1.about1, start1.theMethod, start1.args0, start1.below0, start1.atStart⟩
end Jvm.Pilot.@@N@@
