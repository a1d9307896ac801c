import JvmDerived
import JvmDerived.Pilot.@@N@@Statement
import JvmDerived.Pilot.@@N@@Code
set_option linter.unusedVariables false
set_option linter.unusedSimpArgs false
namespace Jvm.RoadKit
open Sem ClassFile Op Lib Jvm.Stand Jvm.Free Jvm.LawKit
section New
variable {p : Program} {l : Launch} {e : Env} {R : Room} {s : State} {m : MethodId} {args : Array Value} {below : List Frame} {meth : Method} {c : Code} {T : State} {locs : List Loc} {cells slots : Nat}
theorem retI (X : Stand p l e R s m args below meth c T locs cells slots) (hx : p.tables.exec = Jvm.exec) {pc : Nat} {Ls : Array Slot} {z : Int32} {rest : List Value} (hret : meth.sig.returnType = some .int) (hd : decode c.code pc = .ok (.ireturn, 1)) {fs : List Frame}
    (hl : ∀ (f : JFrame) (acts : List Action), f.method = m → f.locked = none → f.entered = [] → (doReturn e (T.setTop f) acts (some (.int z))).1 = T.setFrames fs) : Steps p.tables e below (T.setTop (mkF m pc Ls (.int z :: rest))) (T.setFrames fs) := by
  have hm' : T.vm.method? m = some meth := X.method'
  have hn : narrow .int (.int z) = .int z := rfl
  show Steps p.tables e below (T.setTop { method := m, pc := pc, locals := Ls, stack := _ :: rest, locked := none }) _
  jvm_step X.here [X.here.top, hx, hd, hm', hret, hn]
  first | (intro acts; rw [hl _ acts rfl rfl rfl]) | rw [hl _ _ rfl rfl rfl]
  exact Steps.refl _
end New
end Jvm.RoadKit
namespace Jvm.Pilot.@@N@@
open Jvm Jvm.ClassFile Sem Op Lib Jvm.Free Jvm.Stand Jvm.LawKit Jvm.RoadKit Bundle Jvm.Pilot.@@N@@.Jvm.D
/-- the run from U comes to an end of which P holds -/
def Go (p : Program) (e : Env) (below : List Frame) (P : Outcome → State → Prop) (U : State) : Prop := ∃ s₂ o, Steps p.tables e below U s₂ ∧ s₂.status = .running ∧ Ended s₂ below o ∧ P o s₂
theorem Go.mk {p : Program} {e : Env} {below : List Frame} {P : Outcome → State → Prop} {U : State} (s₂ : State) (o : Outcome) (h1 : Steps p.tables e below U s₂) (h2 : s₂.status = .running) (h3 : Ended s₂ below o) (h4 : P o s₂) : Go p e below P U := ⟨s₂, o, h1, h2, h3, h4⟩
theorem Go.of {p : Program} {e : Env} {below : List Frame} {P : Outcome → State → Prop} {U V : State} (st : ∀ t, Steps p.tables e below V t → Steps p.tables e below U t) (h : Go p e below P V) : Go p e below P U := by
  obtain ⟨s₂, o, h1, h⟩ := h
  exact ⟨s₂, o, st _ h1, h⟩
theorem Go.tr {p : Program} {e : Env} {below : List Frame} {P : Outcome → State → Prop} {U V : State} (st : Steps p.tables e below U V) (h : Go p e below P V) : Go p e below P U := by
  obtain ⟨s₂, o, h1, h⟩ := h
  exact ⟨s₂, o, st.trans h1, h⟩
theorem own_sta {args : Array Value} {s : State} {C n d K : String} (h : (Jvm.Cond.exactly (Term.static C n d) K).value args s none s [] = some true) : ∃ a, (Term.static C n d).eval args s none [] s = some (.ref a) ∧ Exa s s.heap a K := by
  obtain ⟨a, ev⟩ := exa_v h
  exact ⟨a, ev, Exa.start ev h⟩
theorem own_fldI {args : Array Value} {s : State} {t : Term} {a : Addr} {C n d : String} {k : Int32} (ev : t.eval args s none [] s = some (.ref a)) (h : (Jvm.Cond.eq (.field t C n d) (.int k)).value args s none s [] = some true) : Fld s s.heap a C n d (.int k) := by
  obtain ⟨x, y, h1, h2, k1, -⟩ := cmp_v (Or.inl h)
  cases h2
  obtain ⟨z, rfl⟩ : ∃ z, x = .int z := by cases x <;> simp [Kin, Value.isRef] at k1 ⊢
  have e : z = k := gotT (Cond.eq_ints h1 rfl) h
  subst e
  rw [fld_at ev] at h1
  exact Fld.start h1
theorem own_fldR {args : Array Value} {s : State} {t t2 : Term} {a b : Addr} {C n d : String} (ev : t.eval args s none [] s = some (.ref a)) (ev2 : t2.eval args s none [] s = some (.ref b)) (h : (Jvm.Cond.eq (.field t C n d) t2).value args s none s [] = some true) : Fld s s.heap a C n d (.ref b) := by
  obtain ⟨x, y, h1, h2, k1, k2⟩ := cmp_v (Or.inl h)
  cases ev2.symm.trans h2
  have e : x = .ref b := by
    have q := gotT (eq_R h1 h2 (by cases x <;> simp [Kin, Value.isRef] at k1 ⊢) rfl) h
    exact q
  subst e
  rw [fld_at ev] at h1
  exact Fld.start h1
theorem own_Sta_keep {Z : State} {h h' : Heap} {C n d : String} {v : Value} {ws : List Addr} (F : Sta Z h C n d v) (K : Keep h h' ws) (q : ∀ x ∈ ws, ∀ cell : Cell, h[x]? = some cell → cell.vm.isStatics = false) : Sta Z h' C n d v := by
  obtain ⟨cf, i, k, f, st, cell, h1, h2, h3, h4, h5, h6, h7⟩ := F
  exact ⟨cf, i, k, f, st, cell, h1, h2, h3, h4, K.2.1 _ _ h5 (fun z => by have := q st z cell h5; rw [h6] at this; cases this), h6, h7⟩
theorem own_Ins_keep {Z : State} {h h' : Heap} {C : String} {a : Addr} {b : Bool} {ws : List Addr} (F : Ins Z h a C b) (K : Keep h h' ws) : Ins Z h' a C b := by
  obtain ⟨cell, cT, h1, h2, h3⟩ := F
  obtain ⟨c', q1, q2, q3, -⟩ := K.2.2 _ _ h1
  exact ⟨c', cT, q1, h2, by rw [q2, q3]; exact h3⟩
theorem own_p0 {h : Heap} : ∀ x ∈ ([] : List Addr), ∀ cell : Cell, h[x]? = some cell → cell.vm.isStatics = false := fun _ q => nomatch q
theorem own_pS {h : Heap} {y : Addr} {L : List Addr} (q : ∀ cell : Cell, h[y]? = some cell → cell.vm.isStatics = false) (r : ∀ x ∈ L, ∀ cell : Cell, h[x]? = some cell → cell.vm.isStatics = false) : ∀ x ∈ y :: L, ∀ cell : Cell, h[x]? = some cell → cell.vm.isStatics = false := fun x z => (List.mem_cons.mp z).elim (fun u => u ▸ q) (r x)
theorem own_plainE {Z : State} {h : Heap} {a : Addr} {C : String} (F : Exa Z h a C) : ∀ cell : Cell, h[a]? = some cell → cell.vm.isStatics = false := fun cell hc => by
  obtain ⟨c', k, h1, -, -, h4, -⟩ := F
  cases hc.symm.trans h1
  exact h4
theorem own_plainF {Z : State} {h : Heap} {a : Addr} {C n d : String} {v : Value} (F : Fld Z h a C n d v) : ∀ cell : Cell, h[a]? = some cell → cell.vm.isStatics = false := old_plain F
theorem own_plainV {Z : State} {h : Heap} {a : Addr} {k : ClassId} {ty : FieldType} {z : Int32} {vs : List Value} {dv : Value} (F : Arv Z h a k ty z vs dv) : ∀ cell : Cell, h[a]? = some cell → cell.vm.isStatics = false := fun cell hc => by
  obtain ⟨c', A, -⟩ := F
  cases hc.symm.trans A.1
  exact A.plain
theorem own_selpriv {args : Array Value} {s : State} {C : String} {y : MethodName} (h : (Jvm.Cond.selects C y y).before args s = true) (hp : s.PrivateAt y) (hi : (Jvm.Cond.instanceMethod y).before args s = true) (hy : y.cls ≠ "java/lang/invoke/MethodHandle" ∧ y.cls ≠ "java/lang/invoke/VarHandle") : (Jvm.Cond.selects y.cls y y).before args s = true := by
  obtain ⟨c, r, m, -, -, q3, -, k, q4, q5⟩ := Cond.selects_spec h
  exact selects_self_of_private (findClass_of_methodNamed q3) q4 q5 hp hi hy
theorem own_same {args : Array Value} {s : State} {C : String} {x y z : MethodName} (h : (Jvm.Cond.selects C x z).before args s = true) (hc : z.cls = y.cls) (hi : (Jvm.Cond.instanceMethod y).before args s = true) (hy : y.cls ≠ "java/lang/invoke/MethodHandle" ∧ y.cls ≠ "java/lang/invoke/VarHandle") : (Jvm.Cond.sameMethod y.cls y.cls y.name y.desc).before args s = true := by
  obtain ⟨c, r, m, -, -, q3, -, k, q4, q5⟩ := Cond.selects_spec h
  obtain ⟨mk, methM, hnamed, -, -, -⟩ := Cond.instanceMethod_spec hi
  have hfound : s.methodFound? y.cls y.name y.desc = some mk := State.methodFound?_of_named hnamed hy
  have e1 := findClass_of_methodNamed hnamed
  have e2 := findClass_of_methodNamed q3
  rw [hc] at e2
  have e3 : m.cls = mk.cls := Option.some.inj (e2.symm.trans e1)
  rw [e3] at q4
  have hn' : s.methodNamed? ⟨y.cls, y.name, y.desc⟩ = some mk := hnamed
  simp [Cond.before, Cond.holds, Cond.value, e1, hfound, hn', q4, q5]
theorem own_nf {args : Array Value} {s : State} {C : String} {x y z : MethodName} (h : (Jvm.Cond.selects C x z).before args s = true) (hc : z.cls = y.cls) : NotFace s y := fun r0 h0 => by
  obtain ⟨c, r, m, -, -, q3, -, k, q4, q5⟩ := Cond.selects_spec h
  have e1 := findClass_of_methodNamed h0
  have e2 := findClass_of_methodNamed q3
  rw [hc] at e2
  have e3 : m.cls = r0.cls := Option.some.inj (e2.symm.trans e1)
  rw [e3] at q4
  exact ⟨k, q4, q5⟩
theorem d2_0 : decode jdk_30_method_1_code 0 = .ok (.aload_n 0, 1) := by decide +kernel
theorem d2_1 : decode jdk_30_method_1_code 1 = .ok (.invokespecial 1, 3) := by decide +kernel
theorem d2_4 : decode jdk_30_method_1_code 4 = .ok (.return_, 1) := by decide +kernel
theorem pn_java_lang_Record : plainName "java/lang/Record" = true := by first | (simp [plainName, overriddenIn]; done) | decide +kernel
theorem ef_2 (m : MethodId) (x0 : Addr) : entryFrame m #[(.ref x0)] 1 = mkF m 0 #[.val (.ref x0)] [] := by first | (simp [entryFrame, mkF, argsToLocals, Value.category]; done) | rfl
def Q2 (Z : State) (o0 : Addr) (h0 : Heap) (n0 : Nat) (v : Option Value) (h : Heap) (L : List Loc) : Prop := v = none ∧ Fr n0 L ∧ h = h0
set_option maxRecDepth 65536 in
set_option maxHeartbeats 40000000 in
theorem rm2 (l : Launch) (Z : State) (a0 : Array Value) (hw : ∀ d ∈ tables_1, d.before a0 Z = true) (ws : List Jvm.Cond) (o0 : Addr) (h0 : Heap) (n0 : Nat) (Z0 : n0 ≤ h0.size) :
    MetFree l (⟨"java/lang/Record", "<init>", "()V"⟩ : MethodName) (head1 (Jvm.Cond.code (⟨"java/lang/Record", "<init>", "()V"⟩ : MethodName) jdk_30_method_1_code 1 none :: ws) ({ frames := 1, cells := 0, slots := 0, locals := 12 } : Room)) (fun a U => a = #[(.ref o0)] ∧ Z.Warmed39 U.vm ∧ U.heap = h0) (fun _ _ _ _ _ => True) (fun _ U o U' => ∃ v L, o = .returned v ∧ Q2 Z o0 h0 n0 v U'.heap L ∧ FrameEnd U o U' L ({ frames := 1, cells := 0, slots := 0, locals := 12 } : Room).cells ({ frames := 1, cells := 0, slots := 0, locals := 12 } : Room).slots) := by
  refine MetFree.of_bodySF (plainFor_of_name pn_java_lang_Record) hisR ?_
  intro p e s m args below meth c s₁ Bd hml0 hP hK
  obtain ⟨rfl, hZ, hh⟩ := hP
  have hx := Bd.exec
  have hby := Bd.bytes
  have hml : c.maxLocals = 1 := hml0
  have hown : s.vm.findClass "java/lang/Record" = some m.cls := findClass_of_methodNamed Bd.named
  have hnm := (name_of_methodNamed Bd.named Bd.method).1
  have X0 : Stand p l e ({ frames := 1, cells := 0, slots := 0, locals := 12 } : Room) s m #[(.ref o0)] below meth c s₁ [] 0 0 := Stand.of_body Bd
  have e0 : s₁.heap = h0 := by rw [← hh, Bd.state]; rfl
  have N0 := Fr.nil n0
  show Go p e below (fun o U' => ∃ v L, o = .returned v ∧ Q2 Z o0 h0 n0 v U'.heap L ∧ FrameEnd s o U' L ({ frames := 1, cells := 0, slots := 0, locals := 12 } : Room).cells ({ frames := 1, cells := 0, slots := 0, locals := 12 } : Room).slots) (s₁.setTop (entryFrame m #[(.ref o0)] 1))
  refine Go.of (fun _ k => castTop (ef_2 m o0) k) ?_
  show Go p e below _ (s₁.setTop (mkF m 0 #[.val (.ref o0)] []))
  refine Go.of (fun _ k => XS.aloadN X0.here hx rfl (hb hby d2_0) rfl rfl k) ?_
  show Go p e below _ (s₁.setTop (mkF m 1 #[.val (.ref o0)] [(.ref o0)]))
  obtain ⟨T1, X1, e1, st1⟩ := initO X0 hx hZ hown (hw _ (List.mem_of_getElem? (i := 15) rfl)) (hw _ (List.mem_of_getElem? (i := 16) rfl)) (hw _ (List.mem_of_getElem? (i := 17) rfl)) e0 (g := (mkF m 1 #[.val (.ref o0)] [(.ref o0)])) rfl (by rw [hml]; rfl) rfl (hb hby d2_1) (by decide) (W := 0) (by show 2 * 0 + _ ≤ _; exact Nat.le_of_eq rfl) (by decide)
  refine Go.of st1 ?_
  show Go p e below _ (T1.setTop (mkF m 4 #[.val (.ref o0)] []))
  obtain ⟨fs, hr, hrun, hended, hW, hsame⟩ := X1.leave (v := none) (fun _ => rfl)
  refine Go.mk _ _ ?_ hrun hended ⟨_, _, rfl, ?_, ⟨_, rfl⟩, hW, hsame.mono (by decide) (by decide)⟩
  · exact X1.returnOut hx Bd.returns (hb hby d2_4) hr
  · show Q2 Z o0 h0 n0 _ T1.heap _
    rw [e1]
    exact ⟨rfl, N0, rfl⟩
theorem d1_0 : decode prog_6_method_1_code 0 = .ok (.aload_n 0, 1) := by decide +kernel
theorem d1_1 : decode prog_6_method_1_code 1 = .ok (.invokespecial 1, 3) := by decide +kernel
theorem pd_0 : parseMethodDescriptor "()V" = some ⟨[], none⟩ := by decide +kernel
theorem d1_4 : decode prog_6_method_1_code 4 = .ok (.aload_n 0, 1) := by decide +kernel
theorem d1_5 : decode prog_6_method_1_code 5 = .ok (.iload_n 1, 1) := by decide +kernel
theorem d1_6 : decode prog_6_method_1_code 6 = .ok (.putfield 7, 3) := by decide +kernel
theorem d1_9 : decode prog_6_method_1_code 9 = .ok (.aload_n 0, 1) := by decide +kernel
theorem d1_10 : decode prog_6_method_1_code 10 = .ok (.iload_n 2, 1) := by decide +kernel
theorem d1_11 : decode prog_6_method_1_code 11 = .ok (.putfield 13, 3) := by decide +kernel
theorem d1_14 : decode prog_6_method_1_code 14 = .ok (.return_, 1) := by decide +kernel
theorem pn_org_hourbook_calendar_HourEnding : plainName "org/hourbook/calendar/HourEnding" = true := by first | (simp [plainName, overriddenIn]; done) | decide +kernel
theorem ef_1 (m : MethodId) (x0 : Addr) (x1 : Int32) (x2 : Int32) : entryFrame m #[(.ref x0), (.int x1), (.int x2)] 3 = mkF m 0 #[.val (.ref x0), .val (.int x1), .val (.int x2)] [] := by first | (simp [entryFrame, mkF, argsToLocals, Value.category]; done) | rfl
def Q1 (Z : State) (o0 : Addr) (p1 : Int32) (p2 : Int32) (u_o0_value : Value) (u_o0_repeated : Value) (h0 : Heap) (n0 : Nat) (v : Option Value) (h : Heap) (L : List Loc) : Prop := v = none ∧ Fr n0 L ∧ Keep h0 h [o0] ∧ Exa Z h o0 "org/hourbook/calendar/HourEnding" ∧ Fld Z h o0 "org/hourbook/calendar/HourEnding" "repeated" "Z" (.int (nar .boolean p2)) ∧ Fld Z h o0 "org/hourbook/calendar/HourEnding" "value" "I" (.int p1)
set_option maxRecDepth 65536 in
set_option maxHeartbeats 40000000 in
theorem rm1 (l : Launch) (Z : State) (a0 : Array Value) (hw : ∀ d ∈ tables_1, d.before a0 Z = true) (ws : List Jvm.Cond) (o0 : Addr) (p1 : Int32) (p2 : Int32) (u_o0_value : Value) (u_o0_repeated : Value) (h0 : Heap) (n0 : Nat) (Z0 : n0 ≤ h0.size) (E_o0 : Exa Z h0 o0 "org/hourbook/calendar/HourEnding") (F_o0_value : Fld Z h0 o0 "org/hourbook/calendar/HourEnding" "value" "I" u_o0_value) (g_o0 : n0 ≤ o0) (F_o0_repeated : Fld Z h0 o0 "org/hourbook/calendar/HourEnding" "repeated" "Z" u_o0_repeated) :
    MetFree l (⟨"org/hourbook/calendar/HourEnding", "<init>", "(IZ)V"⟩ : MethodName) (head1 (Jvm.Cond.code (⟨"org/hourbook/calendar/HourEnding", "<init>", "(IZ)V"⟩ : MethodName) prog_6_method_1_code 3 none :: ws) ({ frames := 2, cells := 0, slots := 0, locals := 24 } : Room)) (fun a U => a = #[(.ref o0), (.int p1), (.int p2)] ∧ Z.Warmed39 U.vm ∧ U.heap = h0) (fun _ _ _ _ _ => True) (fun _ U o U' => ∃ v L, o = .returned v ∧ Q1 Z o0 p1 p2 u_o0_value u_o0_repeated h0 n0 v U'.heap L ∧ FrameEnd U o U' L ({ frames := 2, cells := 0, slots := 0, locals := 24 } : Room).cells ({ frames := 2, cells := 0, slots := 0, locals := 24 } : Room).slots) := by
  refine MetFree.of_bodySF (plainFor_of_name pn_org_hourbook_calendar_HourEnding) hisR ?_
  intro p e s m args below meth c s₁ Bd hml0 hP hK
  obtain ⟨rfl, hZ, hh⟩ := hP
  have hx := Bd.exec
  have hby := Bd.bytes
  have hml : c.maxLocals = 3 := hml0
  have hown : s.vm.findClass "org/hourbook/calendar/HourEnding" = some m.cls := findClass_of_methodNamed Bd.named
  have hnm := (name_of_methodNamed Bd.named Bd.method).1
  have X0 : Stand p l e ({ frames := 2, cells := 0, slots := 0, locals := 24 } : Room) s m #[(.ref o0), (.int p1), (.int p2)] below meth c s₁ [] 0 0 := Stand.of_body Bd
  have e0 : s₁.heap = h0 := by rw [← hh, Bd.state]; rfl
  have N0 := Fr.nil n0
  show Go p e below (fun o U' => ∃ v L, o = .returned v ∧ Q1 Z o0 p1 p2 u_o0_value u_o0_repeated h0 n0 v U'.heap L ∧ FrameEnd s o U' L ({ frames := 2, cells := 0, slots := 0, locals := 24 } : Room).cells ({ frames := 2, cells := 0, slots := 0, locals := 24 } : Room).slots) (s₁.setTop (entryFrame m #[(.ref o0), (.int p1), (.int p2)] 3))
  refine Go.of (fun _ k => castTop (ef_1 m o0 p1 p2) k) ?_
  show Go p e below _ (s₁.setTop (mkF m 0 #[.val (.ref o0), .val (.int p1), .val (.int p2)] []))
  refine Go.of (fun _ k => XS.aloadN X0.here hx rfl (hb hby d1_0) rfl rfl k) ?_
  show Go p e below _ (s₁.setTop (mkF m 1 #[.val (.ref o0), .val (.int p1), .val (.int p2)] [(.ref o0)]))
  obtain ⟨_, _, ⟨T1, L1, k1, n1⟩, -, X1, ⟨Lc1, hQ1, l1, y1, z1⟩, st1⟩ := X0.specialBack hx (y := (⟨"java/lang/Record", "<init>", "()V"⟩ : MethodName)) rfl hown (mvT hZ (hw _ (List.mem_of_getElem? (i := 10) rfl))) (mvT hZ (hw _ (List.mem_of_getElem? (i := 11) rfl))) (mvT hZ (hw _ (List.mem_of_getElem? (i := 14) rfl))) (by decide) (backOf (W := 0) (rm2 l Z a0 hw [] o0 h0 n0 Z0 ) hZ (hw _ (List.mem_of_getElem? (i := 14) rfl)) (hw _ (List.mem_of_getElem? (i := 13) rfl)) (by decide) (by decide)) (g := (mkF m 1 #[.val (.ref o0), .val (.int p1), .val (.int p2)] [(.ref o0)])) rfl (by rw [hml]; rfl) (Steps.refl _) (a := o0) (argsL := []) (rest := []) (lenOf pd_0 rfl) rfl (by show 2 * 0 + _ ≤ _; exact Nat.le_of_eq rfl) (hb hby d1_1) (fun _ _ => ⟨rfl, e0, (by decide : 0 + 0 ≤ _), (by decide : 0 + 0 ≤ _)⟩)
  dsimp only [Pt.U, Pt.locs, Pt.cells, Pt.slots] at X1 l1 y1 z1 st1 hQ1
  subst l1 y1 z1
  obtain ⟨rfl, Nq1, q1_0⟩ := hQ1
  have N1 := Fr.app N0 Nq1
  refine Go.tr st1 ?_
  show Go p e below _ (T1.setTop (mkF m 4 #[.val (.ref o0), .val (.int p1), .val (.int p2)] []))
  refine Go.of (fun _ k => XS.aloadN X1.here hx rfl (hb hby d1_4) rfl rfl k) ?_
  show Go p e below _ (T1.setTop (mkF m 5 #[.val (.ref o0), .val (.int p1), .val (.int p2)] [(.ref o0)]))
  refine Go.of (fun _ k => XS.iloadN X1.here hx rfl (hb hby d1_5) rfl  k) ?_
  show Go p e below _ (T1.setTop (mkF m 6 #[.val (.ref o0), .val (.int p1), .val (.int p2)] [(.int p1), (.ref o0)]))
  obtain ⟨T2, h2, X2, e2, W2, st2⟩ := putF X1 hx hZ hown (host := "") (Or.inl (hw _ (List.mem_of_getElem? (i := 18) rfl))) Via.refl q1_0 F_o0_value E_o0 (Or.inr ⟨(hw _ (List.mem_of_getElem? (i := 19) rfl)), rfl, hnm⟩) (hw _ (List.mem_of_getElem? (i := 5) rfl)) (ty := .int) (by decide) rfl rfl (g := (mkF m 6 #[.val (.ref o0), .val (.int p1), .val (.int p2)] [(.int p1), (.ref o0)])) rfl rfl (hb hby d1_6)
  refine Go.of st2 ?_
  have N2 := Fr.snoc X2 N1 g_o0
  have K2 : Keep h0 h2 [o0] := ((Keep.refl h0 [o0])).wr W2 (Or.inl (List.mem_of_getElem? (i := 0) rfl))
  have Z2 : n0 ≤ h2.size := Nat.le_trans Z0 (Keep.of_wr W2).1
  have f3 : Fld Z h2 o0 "org/hourbook/calendar/HourEnding" "value" "I" (.int p1) := Fld.same W2 F_o0_value
  show Go p e below _ (T2.setTop (mkF m 9 #[.val (.ref o0), .val (.int p1), .val (.int p2)] []))
  refine Go.of (fun _ k => XS.aloadN X2.here hx rfl (hb hby d1_9) rfl rfl k) ?_
  show Go p e below _ (T2.setTop (mkF m 10 #[.val (.ref o0), .val (.int p1), .val (.int p2)] [(.ref o0)]))
  refine Go.of (fun _ k => XS.iloadN X2.here hx rfl (hb hby d1_10) rfl  k) ?_
  show Go p e below _ (T2.setTop (mkF m 11 #[.val (.ref o0), .val (.int p1), .val (.int p2)] [(.int p2), (.ref o0)]))
  have c4 : Fld Z h2 o0 "org/hourbook/calendar/HourEnding" "repeated" "Z" u_o0_repeated := (Fld.other W2 F_o0_repeated (Or.inr (slot_ne (Or.inr (hw _ (List.mem_of_getElem? (i := 21) rfl))) (Or.inr (hw _ (List.mem_of_getElem? (i := 19) rfl))) (by decide) (t := .boolean) (t' := .int) (by decide) (by decide))))
  have c5 : Exa Z h2 o0 "org/hourbook/calendar/HourEnding" := (Exa.wr W2 E_o0)
  obtain ⟨T6, h6, X6, e6, W6, st6⟩ := putFN X2 hx hZ hown (hw _ (List.mem_of_getElem? (i := 20) rfl)) Via.refl e2 c4 c5 (Or.inr ⟨(hw _ (List.mem_of_getElem? (i := 21) rfl)), rfl, hnm⟩) (hw _ (List.mem_of_getElem? (i := 5) rfl)) (ty := .boolean) (v' := .int (nar .boolean p2)) (by decide) rfl (fits_nar_bool _) (g := (mkF m 11 #[.val (.ref o0), .val (.int p1), .val (.int p2)] [(.int p2), (.ref o0)])) rfl rfl (hb hby d1_11)
  refine Go.of st6 ?_
  have N6 := Fr.snoc X6 N2 g_o0
  have K6 : Keep h0 h6 [o0] := (K2).wr W6 (Or.inl (List.mem_of_getElem? (i := 0) rfl))
  have Z6 : n0 ≤ h6.size := Nat.le_trans Z2 (Keep.of_wr W6).1
  have f7 : Fld Z h6 o0 "org/hourbook/calendar/HourEnding" "repeated" "Z" (.int (nar .boolean p2)) := Fld.same W6 c4
  show Go p e below _ (T6.setTop (mkF m 14 #[.val (.ref o0), .val (.int p1), .val (.int p2)] []))
  have c9 : Exa Z h6 o0 "org/hourbook/calendar/HourEnding" := (Exa.wr W6 c5)
  have c10 : Fld Z h6 o0 "org/hourbook/calendar/HourEnding" "value" "I" (.int p1) := (Fld.other W6 f3 (Or.inr (slot_ne (Or.inr (hw _ (List.mem_of_getElem? (i := 19) rfl))) (Or.inr (hw _ (List.mem_of_getElem? (i := 21) rfl))) (by decide) (t := .int) (t' := .boolean) (by decide) (by decide))))
  obtain ⟨fs, hr, hrun, hended, hW, hsame⟩ := X6.leave (v := none) (fun _ => rfl)
  refine Go.mk _ _ ?_ hrun hended ⟨_, _, rfl, ?_, ⟨_, rfl⟩, hW, hsame.mono (by decide) (by decide)⟩
  · exact X6.returnOut hx Bd.returns (hb hby d1_14) hr
  · show Q1 Z o0 p1 p2 u_o0_value u_o0_repeated h0 n0 _ T6.heap _
    rw [e6]
    exact ⟨rfl, N6, K6, c9, f7, c10⟩
theorem d5_0 : decode prog_6_method_11_code 0 = .ok (.aload_n 0, 1) := by decide +kernel
theorem d5_1 : decode prog_6_method_11_code 1 = .ok (.getfield 13, 3) := by decide +kernel
theorem d5_4 : decode prog_6_method_11_code 4 = .ok (.ireturn, 1) := by decide +kernel
theorem ef_5 (m : MethodId) (x0 : Addr) : entryFrame m #[(.ref x0)] 1 = mkF m 0 #[.val (.ref x0)] [] := by first | (simp [entryFrame, mkF, argsToLocals, Value.category]; done) | rfl
def Q5 (Z : State) (o0 : Addr) (f_o0_repeated : Int32) (h0 : Heap) (n0 : Nat) (v : Option Value) (h : Heap) (L : List Loc) : Prop := v = some (.int (nar .boolean f_o0_repeated)) ∧ Fr n0 L ∧ h = h0
set_option maxRecDepth 65536 in
set_option maxHeartbeats 40000000 in
theorem rm5 (l : Launch) (Z : State) (a0 : Array Value) (hw : ∀ d ∈ tables_1, d.before a0 Z = true) (ws : List Jvm.Cond) (o0 : Addr) (f_o0_repeated : Int32) (h0 : Heap) (n0 : Nat) (Z0 : n0 ≤ h0.size) (F_o0_repeated : Fld Z h0 o0 "org/hourbook/calendar/HourEnding" "repeated" "Z" (.int f_o0_repeated)) :
    MetFree l (⟨"org/hourbook/calendar/HourEnding", "repeated", "()Z"⟩ : MethodName) (head1 (Jvm.Cond.code (⟨"org/hourbook/calendar/HourEnding", "repeated", "()Z"⟩ : MethodName) prog_6_method_11_code 1 (some .boolean) :: ws) ({ frames := 0, cells := 0, slots := 0, locals := 0 } : Room)) (fun a U => a = #[(.ref o0)] ∧ Z.Warmed39 U.vm ∧ U.heap = h0) (fun _ _ _ _ _ => True) (fun _ U o U' => ∃ v L, o = .returned v ∧ Q5 Z o0 f_o0_repeated h0 n0 v U'.heap L ∧ FrameEnd U o U' L ({ frames := 0, cells := 0, slots := 0, locals := 0 } : Room).cells ({ frames := 0, cells := 0, slots := 0, locals := 0 } : Room).slots) := by
  refine MetFree.of_bodySF (plainFor_of_name pn_org_hourbook_calendar_HourEnding) hisR ?_
  intro p e s m args below meth c s₁ Bd hml0 hP hK
  obtain ⟨rfl, hZ, hh⟩ := hP
  have hx := Bd.exec
  have hby := Bd.bytes
  have hml : c.maxLocals = 1 := hml0
  have hown : s.vm.findClass "org/hourbook/calendar/HourEnding" = some m.cls := findClass_of_methodNamed Bd.named
  have hnm := (name_of_methodNamed Bd.named Bd.method).1
  have X0 : Stand p l e ({ frames := 0, cells := 0, slots := 0, locals := 0 } : Room) s m #[(.ref o0)] below meth c s₁ [] 0 0 := Stand.of_body Bd
  have e0 : s₁.heap = h0 := by rw [← hh, Bd.state]; rfl
  have N0 := Fr.nil n0
  show Go p e below (fun o U' => ∃ v L, o = .returned v ∧ Q5 Z o0 f_o0_repeated h0 n0 v U'.heap L ∧ FrameEnd s o U' L ({ frames := 0, cells := 0, slots := 0, locals := 0 } : Room).cells ({ frames := 0, cells := 0, slots := 0, locals := 0 } : Room).slots) (s₁.setTop (entryFrame m #[(.ref o0)] 1))
  refine Go.of (fun _ k => castTop (ef_5 m o0) k) ?_
  show Go p e below _ (s₁.setTop (mkF m 0 #[.val (.ref o0)] []))
  refine Go.of (fun _ k => XS.aloadN X0.here hx rfl (hb hby d5_0) rfl rfl k) ?_
  show Go p e below _ (s₁.setTop (mkF m 1 #[.val (.ref o0)] [(.ref o0)]))
  obtain ⟨T1, X1, e1, st1⟩ := getF X0 hx hZ hown (host := "") (Or.inl (hw _ (List.mem_of_getElem? (i := 20) rfl))) Via.refl e0 F_o0_repeated (g := (mkF m 1 #[.val (.ref o0)] [(.ref o0)])) rfl rfl (hb hby d5_1)
  refine Go.of st1 ?_
  show Go p e below _ (T1.setTop (mkF m 4 #[.val (.ref o0)] [(.int f_o0_repeated)]))
  obtain ⟨fs, hr, hrun, hended, hW, hsame⟩ := X1.leave (v := some (.int (nar .boolean f_o0_repeated))) (fun h => by rw [Bd.returns] at h; cases h)
  refine Go.mk _ _ ?_ hrun hended ⟨_, _, rfl, ?_, ⟨_, rfl⟩, hW, hsame.mono (by decide) (by decide)⟩
  · exact retN X1 hx (t := .boolean) Bd.returns (by simp) (hb hby d5_4) hr
  · show Q5 Z o0 f_o0_repeated h0 n0 _ T1.heap _
    rw [e1]
    exact ⟨rfl, N0, rfl⟩
theorem d4_0 : decode prog_27_method_5_code 0 = .ok (.aload_n 0, 1) := by decide +kernel
theorem d4_1 : decode prog_27_method_5_code 1 = .ok (.getstatic 3, 3) := by decide +kernel
theorem d4_4 : decode prog_27_method_5_code 4 = .ok (.if_acmp .eq 10, 3) := by decide +kernel
theorem d4_14 : decode prog_27_method_5_code 14 = .ok (.iconst 1, 1) := by decide +kernel
theorem d4_15 : decode prog_27_method_5_code 15 = .ok (.goto 4, 3) := by decide +kernel
theorem d4_19 : decode prog_27_method_5_code 19 = .ok (.ireturn, 1) := by decide +kernel
theorem pn_org_hourbook_contract_RepeatedHour : plainName "org/hourbook/contract/RepeatedHour" = true := by first | (simp [plainName, overriddenIn]; done) | decide +kernel
theorem ef_4 (m : MethodId) (x0 : Addr) (x1 : Addr) : entryFrame m #[(.ref x0), (.ref x1)] 2 = mkF m 0 #[.val (.ref x0), .val (.ref x1)] [] := by first | (simp [entryFrame, mkF, argsToLocals, Value.category]; done) | rfl
def Q4_c (Z : State) (o0 : Addr) (o1 : Addr) (w_COUNTED : Addr) (h0 : Heap) (n0 : Nat) (v : Option Value) (h : Heap) (L : List Loc) : Prop := v = some (.int (1 : Int32)) ∧ Fr n0 L ∧ h = h0
set_option maxRecDepth 65536 in
set_option maxHeartbeats 40000000 in
theorem rm4_c (l : Launch) (Z : State) (a0 : Array Value) (hw : ∀ d ∈ tables_1, d.before a0 Z = true) (ws : List Jvm.Cond) (o0 : Addr) (o1 : Addr) (w_COUNTED : Addr) (h0 : Heap) (n0 : Nat) (Z0 : n0 ≤ h0.size) (S_COUNTED : Sta Z h0 "org/hourbook/contract/RepeatedHour" "COUNTED" "Lorg/hourbook/contract/RepeatedHour;" (.ref w_COUNTED)) (ha4 : o0 = w_COUNTED) :
    MetFree l (⟨"org/hourbook/contract/RepeatedHour", "admits", "(Lorg/hourbook/calendar/HourEnding;)Z"⟩ : MethodName) (head1 (Jvm.Cond.code (⟨"org/hourbook/contract/RepeatedHour", "admits", "(Lorg/hourbook/calendar/HourEnding;)Z"⟩ : MethodName) prog_27_method_5_code 2 (some .boolean) :: ws) ({ frames := 0, cells := 0, slots := 0, locals := 0 } : Room)) (fun a U => a = #[(.ref o0), (.ref o1)] ∧ Z.Warmed39 U.vm ∧ U.heap = h0) (fun _ _ _ _ _ => True) (fun _ U o U' => ∃ v L, o = .returned v ∧ Q4_c Z o0 o1 w_COUNTED h0 n0 v U'.heap L ∧ FrameEnd U o U' L ({ frames := 0, cells := 0, slots := 0, locals := 0 } : Room).cells ({ frames := 0, cells := 0, slots := 0, locals := 0 } : Room).slots) := by
  refine MetFree.of_bodySF (plainFor_of_name pn_org_hourbook_contract_RepeatedHour) hisR ?_
  intro p e s m args below meth c s₁ Bd hml0 hP hK
  obtain ⟨rfl, hZ, hh⟩ := hP
  have hx := Bd.exec
  have hby := Bd.bytes
  have hml : c.maxLocals = 2 := hml0
  have hown : s.vm.findClass "org/hourbook/contract/RepeatedHour" = some m.cls := findClass_of_methodNamed Bd.named
  have hnm := (name_of_methodNamed Bd.named Bd.method).1
  have X0 : Stand p l e ({ frames := 0, cells := 0, slots := 0, locals := 0 } : Room) s m #[(.ref o0), (.ref o1)] below meth c s₁ [] 0 0 := Stand.of_body Bd
  have e0 : s₁.heap = h0 := by rw [← hh, Bd.state]; rfl
  have N0 := Fr.nil n0
  show Go p e below (fun o U' => ∃ v L, o = .returned v ∧ Q4_c Z o0 o1 w_COUNTED h0 n0 v U'.heap L ∧ FrameEnd s o U' L ({ frames := 0, cells := 0, slots := 0, locals := 0 } : Room).cells ({ frames := 0, cells := 0, slots := 0, locals := 0 } : Room).slots) (s₁.setTop (entryFrame m #[(.ref o0), (.ref o1)] 2))
  refine Go.of (fun _ k => castTop (ef_4 m o0 o1) k) ?_
  show Go p e below _ (s₁.setTop (mkF m 0 #[.val (.ref o0), .val (.ref o1)] []))
  refine Go.of (fun _ k => XS.aloadN X0.here hx rfl (hb hby d4_0) rfl rfl k) ?_
  show Go p e below _ (s₁.setTop (mkF m 1 #[.val (.ref o0), .val (.ref o1)] [(.ref o0)]))
  obtain ⟨T1, X1, e1, st1⟩ := getS2 X0 hx hZ hown (host := "") (Or.inl (hw _ (List.mem_of_getElem? (i := 27) rfl))) Via.refl e0 S_COUNTED (g := (mkF m 1 #[.val (.ref o0), .val (.ref o1)] [(.ref o0)])) rfl (hb hby d4_1)
  refine Go.of st1 ?_
  show Go p e below _ (T1.setTop (mkF m 4 #[.val (.ref o0), .val (.ref o1)] [(.ref w_COUNTED), (.ref o0)]))
  refine Go.of (fun _ k => Jvm.RoadKit.acmp (g := (mkF m 4 #[.val (.ref o0), .val (.ref o1)] [(.ref w_COUNTED), (.ref o0)])) X1 hx rfl rfl rfl (pc0 := 4) (pc' := 14) (same := true) rfl (hb hby d4_4) rfl (decide_eq_true (congrArg Value.ref ha4)) (by decide) (by decide) k) ?_
  show Go p e below _ (T1.setTop (mkF m 14 #[.val (.ref o0), .val (.ref o1)] []))
  refine Go.of (fun _ k => XS.iconst X1.here hx rfl (hb hby d4_14) k) ?_
  show Go p e below _ (T1.setTop (mkF m 15 #[.val (.ref o0), .val (.ref o1)] [(.int (1 : Int32))]))
  refine Go.of (fun _ k => XS.goto X1.here hx rfl (pc0 := 15) (pc' := 19) rfl (hb hby d4_15) (by decide) (by decide) k) ?_
  show Go p e below _ (T1.setTop (mkF m 19 #[.val (.ref o0), .val (.ref o1)] [(.int (1 : Int32))]))
  obtain ⟨fs, hr, hrun, hended, hW, hsame⟩ := X1.leave (v := some (.int (1 : Int32))) (fun h => by rw [Bd.returns] at h; cases h)
  refine Go.mk _ _ ?_ hrun hended ⟨_, _, rfl, ?_, ⟨_, rfl⟩, hW, hsame.mono (by decide) (by decide)⟩
  · exact retN X1 hx (t := .boolean) Bd.returns (by simp) (hb hby d4_19) hr
  · show Q4_c Z o0 o1 w_COUNTED h0 n0 _ T1.heap _
    rw [e1]
    exact ⟨rfl, N0, rfl⟩
theorem d4_7 : decode prog_27_method_5_code 7 = .ok (.aload_n 1, 1) := by decide +kernel
theorem d4_8 : decode prog_27_method_5_code 8 = .ok (.invokevirtual 33, 3) := by decide +kernel
theorem pd_1 : parseMethodDescriptor "()Z" = some ⟨[], some .boolean⟩ := by decide +kernel
theorem d4_11 : decode prog_27_method_5_code 11 = .ok (.ifCond .ne 7, 3) := by decide +kernel
theorem d4_18 : decode prog_27_method_5_code 18 = .ok (.iconst 0, 1) := by decide +kernel
def Q4_1 (Z : State) (o0 : Addr) (o1 : Addr) (w_COUNTED : Addr) (f_o1_repeated : Int32) (h0 : Heap) (n0 : Nat) (v : Option Value) (h : Heap) (L : List Loc) : Prop := v = some (.int (0 : Int32)) ∧ Fr n0 L ∧ h = h0
set_option maxRecDepth 65536 in
set_option maxHeartbeats 40000000 in
theorem rm4_1 (l : Launch) (Z : State) (a0 : Array Value) (hw : ∀ d ∈ tables_1, d.before a0 Z = true) (ws : List Jvm.Cond) (o0 : Addr) (o1 : Addr) (w_COUNTED : Addr) (f_o1_repeated : Int32) (h0 : Heap) (n0 : Nat) (Z0 : n0 ≤ h0.size) (S_COUNTED : Sta Z h0 "org/hourbook/contract/RepeatedHour" "COUNTED" "Lorg/hourbook/contract/RepeatedHour;" (.ref w_COUNTED)) (ne_o0_w_COUNTED : o0 ≠ w_COUNTED) (F_o1_repeated : Fld Z h0 o1 "org/hourbook/calendar/HourEnding" "repeated" "Z" (.int f_o1_repeated)) (E_o1 : Exa Z h0 o1 "org/hourbook/calendar/HourEnding") (hc11 : ¬ ((nar .boolean f_o1_repeated) = (0 : Int32))) :
    MetFree l (⟨"org/hourbook/contract/RepeatedHour", "admits", "(Lorg/hourbook/calendar/HourEnding;)Z"⟩ : MethodName) (head1 (Jvm.Cond.code (⟨"org/hourbook/contract/RepeatedHour", "admits", "(Lorg/hourbook/calendar/HourEnding;)Z"⟩ : MethodName) prog_27_method_5_code 2 (some .boolean) :: ws) ({ frames := 1, cells := 0, slots := 0, locals := 12 } : Room)) (fun a U => a = #[(.ref o0), (.ref o1)] ∧ Z.Warmed39 U.vm ∧ U.heap = h0) (fun _ _ _ _ _ => True) (fun _ U o U' => ∃ v L, o = .returned v ∧ Q4_1 Z o0 o1 w_COUNTED f_o1_repeated h0 n0 v U'.heap L ∧ FrameEnd U o U' L ({ frames := 1, cells := 0, slots := 0, locals := 12 } : Room).cells ({ frames := 1, cells := 0, slots := 0, locals := 12 } : Room).slots) := by
  refine MetFree.of_bodySF (plainFor_of_name pn_org_hourbook_contract_RepeatedHour) hisR ?_
  intro p e s m args below meth c s₁ Bd hml0 hP hK
  obtain ⟨rfl, hZ, hh⟩ := hP
  have hx := Bd.exec
  have hby := Bd.bytes
  have hml : c.maxLocals = 2 := hml0
  have hown : s.vm.findClass "org/hourbook/contract/RepeatedHour" = some m.cls := findClass_of_methodNamed Bd.named
  have hnm := (name_of_methodNamed Bd.named Bd.method).1
  have X0 : Stand p l e ({ frames := 1, cells := 0, slots := 0, locals := 12 } : Room) s m #[(.ref o0), (.ref o1)] below meth c s₁ [] 0 0 := Stand.of_body Bd
  have e0 : s₁.heap = h0 := by rw [← hh, Bd.state]; rfl
  have N0 := Fr.nil n0
  show Go p e below (fun o U' => ∃ v L, o = .returned v ∧ Q4_1 Z o0 o1 w_COUNTED f_o1_repeated h0 n0 v U'.heap L ∧ FrameEnd s o U' L ({ frames := 1, cells := 0, slots := 0, locals := 12 } : Room).cells ({ frames := 1, cells := 0, slots := 0, locals := 12 } : Room).slots) (s₁.setTop (entryFrame m #[(.ref o0), (.ref o1)] 2))
  refine Go.of (fun _ k => castTop (ef_4 m o0 o1) k) ?_
  show Go p e below _ (s₁.setTop (mkF m 0 #[.val (.ref o0), .val (.ref o1)] []))
  refine Go.of (fun _ k => XS.aloadN X0.here hx rfl (hb hby d4_0) rfl rfl k) ?_
  show Go p e below _ (s₁.setTop (mkF m 1 #[.val (.ref o0), .val (.ref o1)] [(.ref o0)]))
  obtain ⟨T1, X1, e1, st1⟩ := getS2 X0 hx hZ hown (host := "") (Or.inl (hw _ (List.mem_of_getElem? (i := 27) rfl))) Via.refl e0 S_COUNTED (g := (mkF m 1 #[.val (.ref o0), .val (.ref o1)] [(.ref o0)])) rfl (hb hby d4_1)
  refine Go.of st1 ?_
  show Go p e below _ (T1.setTop (mkF m 4 #[.val (.ref o0), .val (.ref o1)] [(.ref w_COUNTED), (.ref o0)]))
  refine Go.of (fun _ k => Jvm.RoadKit.acmp (g := (mkF m 4 #[.val (.ref o0), .val (.ref o1)] [(.ref w_COUNTED), (.ref o0)])) X1 hx rfl rfl rfl (pc0 := 4) (pc' := 7) (same := false) rfl (hb hby d4_4) rfl (decide_eq_false fun q => ne_o0_w_COUNTED (Value.ref.inj q)) (by decide) (by decide) k) ?_
  show Go p e below _ (T1.setTop (mkF m 7 #[.val (.ref o0), .val (.ref o1)] []))
  refine Go.of (fun _ k => XS.aloadN X1.here hx rfl (hb hby d4_7) rfl rfl k) ?_
  show Go p e below _ (T1.setTop (mkF m 8 #[.val (.ref o0), .val (.ref o1)] [(.ref o1)]))
  obtain ⟨cq2, kq2, q2a, q2b, q2c⟩ := isOf hZ e1 E_o1
  obtain ⟨_, _, ⟨T2, L2, k2, n2⟩, -, X2, ⟨Lc2, hQ2, l2, y2, z2⟩, st2⟩ := X1.virtualBack hx (y := (⟨"org/hourbook/calendar/HourEnding", "repeated", "()Z"⟩ : MethodName)) (z := (⟨"org/hourbook/calendar/HourEnding", "repeated", "()Z"⟩ : MethodName)) hown (mvT hZ (hw _ (List.mem_of_getElem? (i := 30) rfl))) (mvT hZ (hw _ (List.mem_of_getElem? (i := 31) rfl))) (notFace_of_selects (args := #[]) (mvT hZ (hw _ (List.mem_of_getElem? (i := 33) rfl)))) (mvT hZ (hw _ (List.mem_of_getElem? (i := 33) rfl))) (mvT hZ (hw _ (List.mem_of_getElem? (i := 32) rfl))) (by decide) (backOf (W := 0) (rm5 l Z a0 hw [] o1 f_o1_repeated h0 n0 Z0 F_o1_repeated) hZ (hw _ (List.mem_of_getElem? (i := 34) rfl)) (hw _ (List.mem_of_getElem? (i := 6) rfl)) (by decide) (by decide)) q2a q2c (g := (mkF m 8 #[.val (.ref o0), .val (.ref o1)] [(.ref o1)])) rfl (by rw [hml]; rfl) (Steps.refl _) (argsL := []) (rest := []) (lenOf pd_1 rfl) rfl (by show 2 * 0 + _ ≤ _; exact Nat.le_of_eq rfl) (hb hby d4_8) (fun _ _ => ⟨rfl, e1, (by decide : 0 + 0 ≤ _), (by decide : 0 + 0 ≤ _)⟩)
  dsimp only [Pt.U, Pt.locs, Pt.cells, Pt.slots] at X2 l2 y2 z2 st2 hQ2
  subst l2 y2 z2
  obtain ⟨rfl, Nq2, q2_0⟩ := hQ2
  have N2 := Fr.app N0 Nq2
  refine Go.tr st2 ?_
  show Go p e below _ (T2.setTop (mkF m 11 #[.val (.ref o0), .val (.ref o1)] [(.int (nar .boolean f_o1_repeated))]))
  refine Go.of (fun _ k => XS.ifYes X2.here hx rfl (pc0 := 11) (pc' := 18) rfl (hb hby d4_11) rfl ((if0 _ _).trans (feq hc11).2) (by decide) (by decide) k) ?_
  show Go p e below _ (T2.setTop (mkF m 18 #[.val (.ref o0), .val (.ref o1)] []))
  refine Go.of (fun _ k => XS.iconst X2.here hx rfl (hb hby d4_18) k) ?_
  show Go p e below _ (T2.setTop (mkF m 19 #[.val (.ref o0), .val (.ref o1)] [(.int (0 : Int32))]))
  obtain ⟨fs, hr, hrun, hended, hW, hsame⟩ := X2.leave (v := some (.int (0 : Int32))) (fun h => by rw [Bd.returns] at h; cases h)
  refine Go.mk _ _ ?_ hrun hended ⟨_, _, rfl, ?_, ⟨_, rfl⟩, hW, hsame.mono (by decide) (by decide)⟩
  · exact retN X2 hx (t := .boolean) Bd.returns (by simp) (hb hby d4_19) hr
  · show Q4_1 Z o0 o1 w_COUNTED f_o1_repeated h0 n0 _ T2.heap _
    rw [q2_0]
    exact ⟨rfl, N2, rfl⟩
def Q4_0 (Z : State) (o0 : Addr) (o1 : Addr) (w_COUNTED : Addr) (f_o1_repeated : Int32) (h0 : Heap) (n0 : Nat) (v : Option Value) (h : Heap) (L : List Loc) : Prop := v = some (.int (1 : Int32)) ∧ Fr n0 L ∧ h = h0
set_option maxRecDepth 65536 in
set_option maxHeartbeats 40000000 in
theorem rm4_0 (l : Launch) (Z : State) (a0 : Array Value) (hw : ∀ d ∈ tables_1, d.before a0 Z = true) (ws : List Jvm.Cond) (o0 : Addr) (o1 : Addr) (w_COUNTED : Addr) (f_o1_repeated : Int32) (h0 : Heap) (n0 : Nat) (Z0 : n0 ≤ h0.size) (S_COUNTED : Sta Z h0 "org/hourbook/contract/RepeatedHour" "COUNTED" "Lorg/hourbook/contract/RepeatedHour;" (.ref w_COUNTED)) (ne_o0_w_COUNTED : o0 ≠ w_COUNTED) (F_o1_repeated : Fld Z h0 o1 "org/hourbook/calendar/HourEnding" "repeated" "Z" (.int f_o1_repeated)) (E_o1 : Exa Z h0 o1 "org/hourbook/calendar/HourEnding") (hc11 : (nar .boolean f_o1_repeated) = (0 : Int32)) :
    MetFree l (⟨"org/hourbook/contract/RepeatedHour", "admits", "(Lorg/hourbook/calendar/HourEnding;)Z"⟩ : MethodName) (head1 (Jvm.Cond.code (⟨"org/hourbook/contract/RepeatedHour", "admits", "(Lorg/hourbook/calendar/HourEnding;)Z"⟩ : MethodName) prog_27_method_5_code 2 (some .boolean) :: ws) ({ frames := 1, cells := 0, slots := 0, locals := 12 } : Room)) (fun a U => a = #[(.ref o0), (.ref o1)] ∧ Z.Warmed39 U.vm ∧ U.heap = h0) (fun _ _ _ _ _ => True) (fun _ U o U' => ∃ v L, o = .returned v ∧ Q4_0 Z o0 o1 w_COUNTED f_o1_repeated h0 n0 v U'.heap L ∧ FrameEnd U o U' L ({ frames := 1, cells := 0, slots := 0, locals := 12 } : Room).cells ({ frames := 1, cells := 0, slots := 0, locals := 12 } : Room).slots) := by
  refine MetFree.of_bodySF (plainFor_of_name pn_org_hourbook_contract_RepeatedHour) hisR ?_
  intro p e s m args below meth c s₁ Bd hml0 hP hK
  obtain ⟨rfl, hZ, hh⟩ := hP
  have hx := Bd.exec
  have hby := Bd.bytes
  have hml : c.maxLocals = 2 := hml0
  have hown : s.vm.findClass "org/hourbook/contract/RepeatedHour" = some m.cls := findClass_of_methodNamed Bd.named
  have hnm := (name_of_methodNamed Bd.named Bd.method).1
  have X0 : Stand p l e ({ frames := 1, cells := 0, slots := 0, locals := 12 } : Room) s m #[(.ref o0), (.ref o1)] below meth c s₁ [] 0 0 := Stand.of_body Bd
  have e0 : s₁.heap = h0 := by rw [← hh, Bd.state]; rfl
  have N0 := Fr.nil n0
  show Go p e below (fun o U' => ∃ v L, o = .returned v ∧ Q4_0 Z o0 o1 w_COUNTED f_o1_repeated h0 n0 v U'.heap L ∧ FrameEnd s o U' L ({ frames := 1, cells := 0, slots := 0, locals := 12 } : Room).cells ({ frames := 1, cells := 0, slots := 0, locals := 12 } : Room).slots) (s₁.setTop (entryFrame m #[(.ref o0), (.ref o1)] 2))
  refine Go.of (fun _ k => castTop (ef_4 m o0 o1) k) ?_
  show Go p e below _ (s₁.setTop (mkF m 0 #[.val (.ref o0), .val (.ref o1)] []))
  refine Go.of (fun _ k => XS.aloadN X0.here hx rfl (hb hby d4_0) rfl rfl k) ?_
  show Go p e below _ (s₁.setTop (mkF m 1 #[.val (.ref o0), .val (.ref o1)] [(.ref o0)]))
  obtain ⟨T1, X1, e1, st1⟩ := getS2 X0 hx hZ hown (host := "") (Or.inl (hw _ (List.mem_of_getElem? (i := 27) rfl))) Via.refl e0 S_COUNTED (g := (mkF m 1 #[.val (.ref o0), .val (.ref o1)] [(.ref o0)])) rfl (hb hby d4_1)
  refine Go.of st1 ?_
  show Go p e below _ (T1.setTop (mkF m 4 #[.val (.ref o0), .val (.ref o1)] [(.ref w_COUNTED), (.ref o0)]))
  refine Go.of (fun _ k => Jvm.RoadKit.acmp (g := (mkF m 4 #[.val (.ref o0), .val (.ref o1)] [(.ref w_COUNTED), (.ref o0)])) X1 hx rfl rfl rfl (pc0 := 4) (pc' := 7) (same := false) rfl (hb hby d4_4) rfl (decide_eq_false fun q => ne_o0_w_COUNTED (Value.ref.inj q)) (by decide) (by decide) k) ?_
  show Go p e below _ (T1.setTop (mkF m 7 #[.val (.ref o0), .val (.ref o1)] []))
  refine Go.of (fun _ k => XS.aloadN X1.here hx rfl (hb hby d4_7) rfl rfl k) ?_
  show Go p e below _ (T1.setTop (mkF m 8 #[.val (.ref o0), .val (.ref o1)] [(.ref o1)]))
  obtain ⟨cq2, kq2, q2a, q2b, q2c⟩ := isOf hZ e1 E_o1
  obtain ⟨_, _, ⟨T2, L2, k2, n2⟩, -, X2, ⟨Lc2, hQ2, l2, y2, z2⟩, st2⟩ := X1.virtualBack hx (y := (⟨"org/hourbook/calendar/HourEnding", "repeated", "()Z"⟩ : MethodName)) (z := (⟨"org/hourbook/calendar/HourEnding", "repeated", "()Z"⟩ : MethodName)) hown (mvT hZ (hw _ (List.mem_of_getElem? (i := 30) rfl))) (mvT hZ (hw _ (List.mem_of_getElem? (i := 31) rfl))) (notFace_of_selects (args := #[]) (mvT hZ (hw _ (List.mem_of_getElem? (i := 33) rfl)))) (mvT hZ (hw _ (List.mem_of_getElem? (i := 33) rfl))) (mvT hZ (hw _ (List.mem_of_getElem? (i := 32) rfl))) (by decide) (backOf (W := 0) (rm5 l Z a0 hw [] o1 f_o1_repeated h0 n0 Z0 F_o1_repeated) hZ (hw _ (List.mem_of_getElem? (i := 34) rfl)) (hw _ (List.mem_of_getElem? (i := 6) rfl)) (by decide) (by decide)) q2a q2c (g := (mkF m 8 #[.val (.ref o0), .val (.ref o1)] [(.ref o1)])) rfl (by rw [hml]; rfl) (Steps.refl _) (argsL := []) (rest := []) (lenOf pd_1 rfl) rfl (by show 2 * 0 + _ ≤ _; exact Nat.le_of_eq rfl) (hb hby d4_8) (fun _ _ => ⟨rfl, e1, (by decide : 0 + 0 ≤ _), (by decide : 0 + 0 ≤ _)⟩)
  dsimp only [Pt.U, Pt.locs, Pt.cells, Pt.slots] at X2 l2 y2 z2 st2 hQ2
  subst l2 y2 z2
  obtain ⟨rfl, Nq2, q2_0⟩ := hQ2
  have N2 := Fr.app N0 Nq2
  refine Go.tr st2 ?_
  show Go p e below _ (T2.setTop (mkF m 11 #[.val (.ref o0), .val (.ref o1)] [(.int (nar .boolean f_o1_repeated))]))
  refine Go.of (fun _ k => XS.ifNo X2.here hx rfl (hb hby d4_11) rfl ((if0 _ _).trans (teq hc11).2) k) ?_
  show Go p e below _ (T2.setTop (mkF m 14 #[.val (.ref o0), .val (.ref o1)] []))
  refine Go.of (fun _ k => XS.iconst X2.here hx rfl (hb hby d4_14) k) ?_
  show Go p e below _ (T2.setTop (mkF m 15 #[.val (.ref o0), .val (.ref o1)] [(.int (1 : Int32))]))
  refine Go.of (fun _ k => XS.goto X2.here hx rfl (pc0 := 15) (pc' := 19) rfl (hb hby d4_15) (by decide) (by decide) k) ?_
  show Go p e below _ (T2.setTop (mkF m 19 #[.val (.ref o0), .val (.ref o1)] [(.int (1 : Int32))]))
  obtain ⟨fs, hr, hrun, hended, hW, hsame⟩ := X2.leave (v := some (.int (1 : Int32))) (fun h => by rw [Bd.returns] at h; cases h)
  refine Go.mk _ _ ?_ hrun hended ⟨_, _, rfl, ?_, ⟨_, rfl⟩, hW, hsame.mono (by decide) (by decide)⟩
  · exact retN X2 hx (t := .boolean) Bd.returns (by simp) (hb hby d4_19) hr
  · show Q4_0 Z o0 o1 w_COUNTED f_o1_repeated h0 n0 _ T2.heap _
    rw [q2_0]
    exact ⟨rfl, N2, rfl⟩
theorem pd_2 : parseMethodDescriptor "(IZ)V" = some ⟨[.int, .boolean], none⟩ := by decide +kernel
theorem pd_3 : parseMethodDescriptor "(Lorg/hourbook/calendar/HourEnding;)Z" = some ⟨[(.object "org/hourbook/calendar/HourEnding")], some .boolean⟩ := by decide +kernel
theorem pn_org_hourbook_contract_RepeatedHourAdmitsPinLaw : plainName "org/hourbook/contract/RepeatedHourAdmitsPinLaw" = true := by first | (simp [plainName, overriddenIn]; done) | decide +kernel
theorem ef_0 (m : MethodId) (x0 : Int32) (x1 : Int32) (x2 : Int32) : entryFrame m #[(.int x0), (.int x1), (.int x2)] maxLocals = mkF m 0 #[.val (.int x0), .val (.int x1), .val (.int x2), .unset, .unset, .unset, .unset, .unset, .unset] [] := by first | (simp [entryFrame, mkF, argsToLocals, Value.category, maxLocals]; done) | rfl
def Q0 (Z : State) (p0 : Int32) (p1 : Int32) (p2 : Int32) (w_COUNTED : Addr) (w_LEFT_OUT : Addr) (h0 : Heap) (n0 : Nat) (v : Option Value) (h : Heap) (L : List Loc) : Prop := v = some (.int (1 : Int32)) ∧ Fr n0 L
set_option maxRecDepth 65536 in
set_option maxHeartbeats 40000000 in
theorem rm0 (l : Launch) (Z : State) (a0 : Array Value) (hw : ∀ d ∈ tables_1, d.before a0 Z = true) (ws : List Jvm.Cond) (p0 : Int32) (p1 : Int32) (p2 : Int32) (w_COUNTED : Addr) (w_LEFT_OUT : Addr) (h0 : Heap) (n0 : Nat) (Z0 : n0 ≤ h0.size) (S_COUNTED : Sta Z h0 "org/hourbook/contract/RepeatedHour" "COUNTED" "Lorg/hourbook/contract/RepeatedHour;" (.ref w_COUNTED)) (E_w_COUNTED : Exa Z h0 w_COUNTED "org/hourbook/contract/RepeatedHour") (S_LEFT_OUT : Sta Z h0 "org/hourbook/contract/RepeatedHour" "LEFT_OUT" "Lorg/hourbook/contract/RepeatedHour;" (.ref w_LEFT_OUT)) (ne_w_COUNTED_w_LEFT_OUT : w_COUNTED ≠ w_LEFT_OUT) (E_w_LEFT_OUT : Exa Z h0 w_LEFT_OUT "org/hourbook/contract/RepeatedHour") :
    MetFree l x (head1 (Jvm.Cond.code x code maxLocals ret :: ws) room_1) (fun a U => a = #[(.int p0), (.int p1), (.int p2)] ∧ Z.Warmed39 U.vm ∧ U.heap = h0) (fun _ _ _ _ _ => True) (fun _ U o U' => ∃ v L, o = .returned v ∧ Q0 Z p0 p1 p2 w_COUNTED w_LEFT_OUT h0 n0 v U'.heap L ∧ FrameEnd U o U' L room_1.cells room_1.slots) := by
  refine MetFree.of_bodySF (plainFor_of_name pn_org_hourbook_contract_RepeatedHourAdmitsPinLaw) hisR ?_
  intro p e s m args below meth c s₁ Bd hml0 hP hK
  obtain ⟨rfl, hZ, hh⟩ := hP
  have hx := Bd.exec
  have hby := Bd.bytes
  have hml : c.maxLocals = 9 := hml0
  have hown : s.vm.findClass "org/hourbook/contract/RepeatedHourAdmitsPinLaw" = some m.cls := findClass_of_methodNamed Bd.named
  have hnm := (name_of_methodNamed Bd.named Bd.method).1
  have X0 : Stand p l e room_1 s m #[(.int p0), (.int p1), (.int p2)] below meth c s₁ [] 0 0 := Stand.of_body Bd
  have e0 : s₁.heap = h0 := by rw [← hh, Bd.state]; rfl
  have N0 := Fr.nil n0
  show Go p e below (fun o U' => ∃ v L, o = .returned v ∧ Q0 Z p0 p1 p2 w_COUNTED w_LEFT_OUT h0 n0 v U'.heap L ∧ FrameEnd s o U' L room_1.cells room_1.slots) (s₁.setTop (entryFrame m #[(.int p0), (.int p1), (.int p2)] maxLocals))
  refine Go.of (fun _ k => castTop (ef_0 m p0 p1 p2) k) ?_
  show Go p e below _ (s₁.setTop (mkF m 0 #[.val (.int p0), .val (.int p1), .val (.int p2), .unset, .unset, .unset, .unset, .unset, .unset] []))
  refine Go.of (fun _ k => XS.iloadN X0.here hx rfl (hb hby at_0) rfl  k) ?_
  show Go p e below _ (s₁.setTop (mkF m 1 #[.val (.int p0), .val (.int p1), .val (.int p2), .unset, .unset, .unset, .unset, .unset, .unset] [(.int p0)]))
  refine Go.of (fun _ k => XS.iconst X0.here hx rfl (hb hby at_1) k) ?_
  show Go p e below _ (s₁.setTop (mkF m 2 #[.val (.int p0), .val (.int p1), .val (.int p2), .unset, .unset, .unset, .unset, .unset, .unset] [(.int (1 : Int32)), (.int p0)]))
  refine Go.of (fun _ k => XS.iand X0.here hx rfl (hb hby at_2) rfl k) ?_
  show Go p e below _ (s₁.setTop (mkF m 3 #[.val (.int p0), .val (.int p1), .val (.int p2), .unset, .unset, .unset, .unset, .unset, .unset] [(.int (p0 &&& (1 : Int32)))]))
  by_cases hc1 : (p0 &&& (1 : Int32)) = (0 : Int32)
  ·
    refine Go.of (fun _ k => XS.ifYes X0.here hx rfl (pc0 := 3) (pc' := 10) rfl (hb hby at_3) rfl ((if0 _ _).trans (teq hc1).1) (by decide) (by decide) k) ?_
    show Go p e below _ (s₁.setTop (mkF m 10 #[.val (.int p0), .val (.int p1), .val (.int p2), .unset, .unset, .unset, .unset, .unset, .unset] []))
    refine Go.of (fun _ k => XS.iconst X0.here hx rfl (hb hby at_10) k) ?_
    show Go p e below _ (s₁.setTop (mkF m 11 #[.val (.int p0), .val (.int p1), .val (.int p2), .unset, .unset, .unset, .unset, .unset, .unset] [(.int (0 : Int32))]))
    refine Go.of (fun _ k => XS.istoreN X0.here hx rfl (hb hby at_11) rfl (l' := #[.val (.int p0), .val (.int p1), .val (.int p2), .val (.int (0 : Int32)), .unset, .unset, .unset, .unset, .unset]) rfl k) ?_
    show Go p e below _ (s₁.setTop (mkF m 12 #[.val (.int p0), .val (.int p1), .val (.int p2), .val (.int (0 : Int32)), .unset, .unset, .unset, .unset, .unset] []))
    refine Go.of (fun _ k => XS.iloadN X0.here hx rfl (hb hby at_12) rfl  k) ?_
    show Go p e below _ (s₁.setTop (mkF m 13 #[.val (.int p0), .val (.int p1), .val (.int p2), .val (.int (0 : Int32)), .unset, .unset, .unset, .unset, .unset] [(.int p2)]))
    refine Go.of (fun _ k => XS.iconst X0.here hx rfl (hb hby at_13) k) ?_
    show Go p e below _ (s₁.setTop (mkF m 14 #[.val (.int p0), .val (.int p1), .val (.int p2), .val (.int (0 : Int32)), .unset, .unset, .unset, .unset, .unset] [(.int (1 : Int32)), (.int p2)]))
    refine Go.of (fun _ k => XS.iand X0.here hx rfl (hb hby at_14) rfl k) ?_
    show Go p e below _ (s₁.setTop (mkF m 15 #[.val (.int p0), .val (.int p1), .val (.int p2), .val (.int (0 : Int32)), .unset, .unset, .unset, .unset, .unset] [(.int (p2 &&& (1 : Int32)))]))
    by_cases hc2 : (p2 &&& (1 : Int32)) = (0 : Int32)
    ·
      refine Go.of (fun _ k => XS.ifYes X0.here hx rfl (pc0 := 15) (pc' := 22) rfl (hb hby at_15) rfl ((if0 _ _).trans (teq hc2).1) (by decide) (by decide) k) ?_
      show Go p e below _ (s₁.setTop (mkF m 22 #[.val (.int p0), .val (.int p1), .val (.int p2), .val (.int (0 : Int32)), .unset, .unset, .unset, .unset, .unset] []))
      refine Go.of (fun _ k => XS.iconst X0.here hx rfl (hb hby at_22) k) ?_
      show Go p e below _ (s₁.setTop (mkF m 23 #[.val (.int p0), .val (.int p1), .val (.int p2), .val (.int (0 : Int32)), .unset, .unset, .unset, .unset, .unset] [(.int (0 : Int32))]))
      refine Go.of (fun _ k => XS.istore X0.here hx rfl (hb hby at_23) rfl (l' := #[.val (.int p0), .val (.int p1), .val (.int p2), .val (.int (0 : Int32)), .val (.int (0 : Int32)), .unset, .unset, .unset, .unset]) rfl k) ?_
      show Go p e below _ (s₁.setTop (mkF m 25 #[.val (.int p0), .val (.int p1), .val (.int p2), .val (.int (0 : Int32)), .val (.int (0 : Int32)), .unset, .unset, .unset, .unset] []))
      refine Go.of (fun _ k => XS.iloadN X0.here hx rfl (hb hby at_25) rfl  k) ?_
      show Go p e below _ (s₁.setTop (mkF m 26 #[.val (.int p0), .val (.int p1), .val (.int p2), .val (.int (0 : Int32)), .val (.int (0 : Int32)), .unset, .unset, .unset, .unset] [(.int p1)]))
      refine Go.of (fun _ k => X0.ldcInt hx hown (mvT hZ (hw _ (List.mem_of_getElem? (i := 0) rfl))) (g := (mkF m 26 #[.val (.int p0), .val (.int p1), .val (.int p2), .val (.int (0 : Int32)), .val (.int (0 : Int32)), .unset, .unset, .unset, .unset] [(.int p1)])) rfl (hb hby at_26) _ k) ?_
      show Go p e below _ (s₁.setTop (mkF m 28 #[.val (.int p0), .val (.int p1), .val (.int p2), .val (.int (0 : Int32)), .val (.int (0 : Int32)), .unset, .unset, .unset, .unset] [(.int (2147483647 : Int32)), (.int p1)]))
      refine Go.of (fun _ k => XS.iand X0.here hx rfl (hb hby at_28) rfl k) ?_
      show Go p e below _ (s₁.setTop (mkF m 29 #[.val (.int p0), .val (.int p1), .val (.int p2), .val (.int (0 : Int32)), .val (.int (0 : Int32)), .unset, .unset, .unset, .unset] [(.int (p1 &&& (2147483647 : Int32)))]))
      refine Go.of (fun _ k => XS.bipush X0.here hx rfl (hb hby at_29) k) ?_
      show Go p e below _ (s₁.setTop (mkF m 31 #[.val (.int p0), .val (.int p1), .val (.int p2), .val (.int (0 : Int32)), .val (.int (0 : Int32)), .unset, .unset, .unset, .unset] [(.int (24 : Int32)), (.int (p1 &&& (2147483647 : Int32)))]))
      refine Go.of (fun _ k => iremM X0 hx rfl (hb hby at_31) rfl (by decide) k) ?_
      show Go p e below _ (s₁.setTop (mkF m 32 #[.val (.int p0), .val (.int p1), .val (.int p2), .val (.int (0 : Int32)), .val (.int (0 : Int32)), .unset, .unset, .unset, .unset] [(.int ((p1 &&& (2147483647 : Int32)) % (24 : Int32)))]))
      refine Go.of (fun _ k => XS.iconst X0.here hx rfl (hb hby at_32) k) ?_
      show Go p e below _ (s₁.setTop (mkF m 33 #[.val (.int p0), .val (.int p1), .val (.int p2), .val (.int (0 : Int32)), .val (.int (0 : Int32)), .unset, .unset, .unset, .unset] [(.int (1 : Int32)), (.int ((p1 &&& (2147483647 : Int32)) % (24 : Int32)))]))
      refine Go.of (fun _ k => XS.iadd X0.here hx rfl (hb hby at_33) rfl k) ?_
      show Go p e below _ (s₁.setTop (mkF m 34 #[.val (.int p0), .val (.int p1), .val (.int p2), .val (.int (0 : Int32)), .val (.int (0 : Int32)), .unset, .unset, .unset, .unset] [(.int (((p1 &&& (2147483647 : Int32)) % (24 : Int32)) + (1 : Int32)))]))
      refine Go.of (fun _ k => XS.istore X0.here hx rfl (hb hby at_34) rfl (l' := #[.val (.int p0), .val (.int p1), .val (.int p2), .val (.int (0 : Int32)), .val (.int (0 : Int32)), .val (.int (((p1 &&& (2147483647 : Int32)) % (24 : Int32)) + (1 : Int32))), .unset, .unset, .unset]) rfl k) ?_
      show Go p e below _ (s₁.setTop (mkF m 36 #[.val (.int p0), .val (.int p1), .val (.int p2), .val (.int (0 : Int32)), .val (.int (0 : Int32)), .val (.int (((p1 &&& (2147483647 : Int32)) % (24 : Int32)) + (1 : Int32))), .unset, .unset, .unset] []))
      refine Go.of (fun _ k => XS.iloadN X0.here hx rfl (hb hby at_36) rfl  k) ?_
      show Go p e below _ (s₁.setTop (mkF m 37 #[.val (.int p0), .val (.int p1), .val (.int p2), .val (.int (0 : Int32)), .val (.int (0 : Int32)), .val (.int (((p1 &&& (2147483647 : Int32)) % (24 : Int32)) + (1 : Int32))), .unset, .unset, .unset] [(.int (0 : Int32))]))
      refine Go.of (fun _ k => XS.ifYes X0.here hx rfl (pc0 := 37) (pc' := 46) rfl (hb hby at_37) rfl ((if0 _ _).trans (teq (by decide : (0 : Int32) = (0 : Int32))).1) (by decide) (by decide) k) ?_
      show Go p e below _ (s₁.setTop (mkF m 46 #[.val (.int p0), .val (.int p1), .val (.int p2), .val (.int (0 : Int32)), .val (.int (0 : Int32)), .val (.int (((p1 &&& (2147483647 : Int32)) % (24 : Int32)) + (1 : Int32))), .unset, .unset, .unset] []))
      obtain ⟨T3, X3, e3, st3⟩ := getS2 X0 hx hZ hown (host := "") (Or.inl (hw _ (List.mem_of_getElem? (i := 1) rfl))) Via.refl e0 S_COUNTED (g := (mkF m 46 #[.val (.int p0), .val (.int p1), .val (.int p2), .val (.int (0 : Int32)), .val (.int (0 : Int32)), .val (.int (((p1 &&& (2147483647 : Int32)) % (24 : Int32)) + (1 : Int32))), .unset, .unset, .unset] [])) rfl (hb hby at_46)
      refine Go.of st3 ?_
      show Go p e below _ (T3.setTop (mkF m 49 #[.val (.int p0), .val (.int p1), .val (.int p2), .val (.int (0 : Int32)), .val (.int (0 : Int32)), .val (.int (((p1 &&& (2147483647 : Int32)) % (24 : Int32)) + (1 : Int32))), .unset, .unset, .unset] [(.ref w_COUNTED)]))
      refine Go.of (fun _ k => XS.astore X3.here hx rfl (hb hby at_49) rfl rfl (l' := #[.val (.int p0), .val (.int p1), .val (.int p2), .val (.int (0 : Int32)), .val (.int (0 : Int32)), .val (.int (((p1 &&& (2147483647 : Int32)) % (24 : Int32)) + (1 : Int32))), .val (.ref w_COUNTED), .unset, .unset]) rfl k) ?_
      show Go p e below _ (T3.setTop (mkF m 51 #[.val (.int p0), .val (.int p1), .val (.int p2), .val (.int (0 : Int32)), .val (.int (0 : Int32)), .val (.int (((p1 &&& (2147483647 : Int32)) % (24 : Int32)) + (1 : Int32))), .val (.ref w_COUNTED), .unset, .unset] []))
      obtain ⟨T4, h4, X4, e4, E4, A4, D4, -, st4⟩ := newO X3 hx hZ hown (hw _ (List.mem_of_getElem? (i := 4) rfl)) (hw _ (List.mem_of_getElem? (i := 5) rfl)) (hw _ (List.mem_of_getElem? (i := 6) rfl)) e3 (g := (mkF m 51 #[.val (.int p0), .val (.int p1), .val (.int p2), .val (.int (0 : Int32)), .val (.int (0 : Int32)), .val (.int (((p1 &&& (2147483647 : Int32)) % (24 : Int32)) + (1 : Int32))), .val (.ref w_COUNTED), .unset, .unset] [])) rfl (hb hby at_51) (by decide) (by decide)
      obtain ⟨b4, g4⟩ : ∃ z, z = h0.size := ⟨_, rfl⟩
      rw [← g4] at A4 D4 st4
      refine Go.of st4 ?_
      have g_b4 : n0 ≤ b4 := Nat.le_trans Z0 (Nat.le_of_eq g4.symm)
      have sz_b4 : h0.size ≤ b4 := Nat.le_trans ((Keep.refl h0 [])).1 (Nat.le_of_eq g4.symm)
      have K4 : Keep h0 h4 [] := ((Keep.refl h0 [])).ext E4
      have Z4 : n0 ≤ h4.size := Nat.le_trans Z0 E4.1
      have f5 : Fld Z h4 b4 "org/hourbook/calendar/HourEnding" "value" "I" (.int (0 : Int32)) := D4 (Or.inr (hw _ (List.mem_of_getElem? (i := 19) rfl))) (ty := .int) (by decide)
      have f6 : Fld Z h4 b4 "org/hourbook/calendar/HourEnding" "repeated" "Z" (.int (0 : Int32)) := D4 (Or.inr (hw _ (List.mem_of_getElem? (i := 21) rfl))) (ty := .boolean) (by decide)
      show Go p e below _ (T4.setTop (mkF m 54 #[.val (.int p0), .val (.int p1), .val (.int p2), .val (.int (0 : Int32)), .val (.int (0 : Int32)), .val (.int (((p1 &&& (2147483647 : Int32)) % (24 : Int32)) + (1 : Int32))), .val (.ref w_COUNTED), .unset, .unset] [(.ref b4)]))
      refine Go.of (fun _ k => XS.dup X4.here hx rfl (hb hby at_54) rfl rfl k) ?_
      show Go p e below _ (T4.setTop (mkF m 55 #[.val (.int p0), .val (.int p1), .val (.int p2), .val (.int (0 : Int32)), .val (.int (0 : Int32)), .val (.int (((p1 &&& (2147483647 : Int32)) % (24 : Int32)) + (1 : Int32))), .val (.ref w_COUNTED), .unset, .unset] [(.ref b4), (.ref b4)]))
      refine Go.of (fun _ k => XS.iload X4.here hx rfl (hb hby at_55) rfl  k) ?_
      show Go p e below _ (T4.setTop (mkF m 57 #[.val (.int p0), .val (.int p1), .val (.int p2), .val (.int (0 : Int32)), .val (.int (0 : Int32)), .val (.int (((p1 &&& (2147483647 : Int32)) % (24 : Int32)) + (1 : Int32))), .val (.ref w_COUNTED), .unset, .unset] [(.int (((p1 &&& (2147483647 : Int32)) % (24 : Int32)) + (1 : Int32))), (.ref b4), (.ref b4)]))
      refine Go.of (fun _ k => XS.iload X4.here hx rfl (hb hby at_57) rfl  k) ?_
      show Go p e below _ (T4.setTop (mkF m 59 #[.val (.int p0), .val (.int p1), .val (.int p2), .val (.int (0 : Int32)), .val (.int (0 : Int32)), .val (.int (((p1 &&& (2147483647 : Int32)) % (24 : Int32)) + (1 : Int32))), .val (.ref w_COUNTED), .unset, .unset] [(.int (0 : Int32)), (.int (((p1 &&& (2147483647 : Int32)) % (24 : Int32)) + (1 : Int32))), (.ref b4), (.ref b4)]))
      obtain ⟨_, _, ⟨T7, L7, k7, n7⟩, -, X7, ⟨Lc7, hQ7, l7, y7, z7⟩, st7⟩ := X4.specialBack hx (y := (⟨"org/hourbook/calendar/HourEnding", "<init>", "(IZ)V"⟩ : MethodName)) rfl hown (mvT hZ (hw _ (List.mem_of_getElem? (i := 7) rfl))) (mvT hZ (hw _ (List.mem_of_getElem? (i := 8) rfl))) (mvT hZ (hw _ (List.mem_of_getElem? (i := 9) rfl))) (by decide) (backOf (W := 1) (rm1 l Z a0 hw [] b4 (((p1 &&& (2147483647 : Int32)) % (24 : Int32)) + (1 : Int32)) (0 : Int32) (.int (0 : Int32)) (.int (0 : Int32)) h4 n0 Z4 A4 f5 g_b4 f6) hZ (hw _ (List.mem_of_getElem? (i := 9) rfl)) (hw _ (List.mem_of_getElem? (i := 6) rfl)) (by decide) (by decide)) (g := (mkF m 59 #[.val (.int p0), .val (.int p1), .val (.int p2), .val (.int (0 : Int32)), .val (.int (0 : Int32)), .val (.int (((p1 &&& (2147483647 : Int32)) % (24 : Int32)) + (1 : Int32))), .val (.ref w_COUNTED), .unset, .unset] [(.int (0 : Int32)), (.int (((p1 &&& (2147483647 : Int32)) % (24 : Int32)) + (1 : Int32))), (.ref b4), (.ref b4)])) rfl (by rw [hml]; rfl) (Steps.refl _) (a := b4) (argsL := [(.int (((p1 &&& (2147483647 : Int32)) % (24 : Int32)) + (1 : Int32))), (.int (0 : Int32))]) (rest := [(.ref b4)]) (lenOf pd_2 rfl) rfl (by show 2 * 0 + _ ≤ _; exact Nat.le_of_eq rfl) (hb hby at_59) (fun _ _ => ⟨rfl, e4, (by decide : 1 + 0 ≤ _), (by decide : 2 + 0 ≤ _)⟩)
      dsimp only [Pt.U, Pt.locs, Pt.cells, Pt.slots] at X7 l7 y7 z7 st7 hQ7
      subst l7 y7 z7
      obtain ⟨rfl, Nq7, q7_0, q7_1, q7_2, q7_3⟩ := hQ7
      have N7 := Fr.app N0 Nq7
      refine Go.tr st7 ?_
      have K7 : Keep h0 T7.heap [] := (K4).trans q7_0 (allS (Or.inr sz_b4) all0)
      have Z7 : n0 ≤ T7.heap.size := Nat.le_trans Z4 q7_0.1
      show Go p e below _ (T7.setTop (mkF m 62 #[.val (.int p0), .val (.int p1), .val (.int p2), .val (.int (0 : Int32)), .val (.int (0 : Int32)), .val (.int (((p1 &&& (2147483647 : Int32)) % (24 : Int32)) + (1 : Int32))), .val (.ref w_COUNTED), .unset, .unset] [(.ref b4)]))
      refine Go.of (fun _ k => XS.astore X7.here hx rfl (hb hby at_62) rfl rfl (l' := #[.val (.int p0), .val (.int p1), .val (.int p2), .val (.int (0 : Int32)), .val (.int (0 : Int32)), .val (.int (((p1 &&& (2147483647 : Int32)) % (24 : Int32)) + (1 : Int32))), .val (.ref w_COUNTED), .val (.ref b4), .unset]) rfl k) ?_
      show Go p e below _ (T7.setTop (mkF m 64 #[.val (.int p0), .val (.int p1), .val (.int p2), .val (.int (0 : Int32)), .val (.int (0 : Int32)), .val (.int (((p1 &&& (2147483647 : Int32)) % (24 : Int32)) + (1 : Int32))), .val (.ref w_COUNTED), .val (.ref b4), .unset] []))
      refine Go.of (fun _ k => XS.iloadN X7.here hx rfl (hb hby at_64) rfl  k) ?_
      show Go p e below _ (T7.setTop (mkF m 65 #[.val (.int p0), .val (.int p1), .val (.int p2), .val (.int (0 : Int32)), .val (.int (0 : Int32)), .val (.int (((p1 &&& (2147483647 : Int32)) % (24 : Int32)) + (1 : Int32))), .val (.ref w_COUNTED), .val (.ref b4), .unset] [(.int (0 : Int32))]))
      refine Go.of (fun _ k => XS.ifYes X7.here hx rfl (pc0 := 65) (pc' := 85) rfl (hb hby at_65) rfl ((if0 _ _).trans (teq (by decide : (0 : Int32) = (0 : Int32))).1) (by decide) (by decide) k) ?_
      show Go p e below _ (T7.setTop (mkF m 85 #[.val (.int p0), .val (.int p1), .val (.int p2), .val (.int (0 : Int32)), .val (.int (0 : Int32)), .val (.int (((p1 &&& (2147483647 : Int32)) % (24 : Int32)) + (1 : Int32))), .val (.ref w_COUNTED), .val (.ref b4), .unset] []))
      refine Go.of (fun _ k => XS.iconst X7.here hx rfl (hb hby at_85) k) ?_
      show Go p e below _ (T7.setTop (mkF m 86 #[.val (.int p0), .val (.int p1), .val (.int p2), .val (.int (0 : Int32)), .val (.int (0 : Int32)), .val (.int (((p1 &&& (2147483647 : Int32)) % (24 : Int32)) + (1 : Int32))), .val (.ref w_COUNTED), .val (.ref b4), .unset] [(.int (1 : Int32))]))
      refine Go.of (fun _ k => XS.istore X7.here hx rfl (hb hby at_86) rfl (l' := #[.val (.int p0), .val (.int p1), .val (.int p2), .val (.int (0 : Int32)), .val (.int (0 : Int32)), .val (.int (((p1 &&& (2147483647 : Int32)) % (24 : Int32)) + (1 : Int32))), .val (.ref w_COUNTED), .val (.ref b4), .val (.int (1 : Int32))]) rfl k) ?_
      show Go p e below _ (T7.setTop (mkF m 88 #[.val (.int p0), .val (.int p1), .val (.int p2), .val (.int (0 : Int32)), .val (.int (0 : Int32)), .val (.int (((p1 &&& (2147483647 : Int32)) % (24 : Int32)) + (1 : Int32))), .val (.ref w_COUNTED), .val (.ref b4), .val (.int (1 : Int32))] []))
      refine Go.of (fun _ k => XS.aload X7.here hx rfl (hb hby at_88) rfl rfl k) ?_
      show Go p e below _ (T7.setTop (mkF m 90 #[.val (.int p0), .val (.int p1), .val (.int p2), .val (.int (0 : Int32)), .val (.int (0 : Int32)), .val (.int (((p1 &&& (2147483647 : Int32)) % (24 : Int32)) + (1 : Int32))), .val (.ref w_COUNTED), .val (.ref b4), .val (.int (1 : Int32))] [(.ref w_COUNTED)]))
      refine Go.of (fun _ k => XS.aload X7.here hx rfl (hb hby at_90) rfl rfl k) ?_
      show Go p e below _ (T7.setTop (mkF m 92 #[.val (.int p0), .val (.int p1), .val (.int p2), .val (.int (0 : Int32)), .val (.int (0 : Int32)), .val (.int (((p1 &&& (2147483647 : Int32)) % (24 : Int32)) + (1 : Int32))), .val (.ref w_COUNTED), .val (.ref b4), .val (.int (1 : Int32))] [(.ref b4), (.ref w_COUNTED)]))
      have c9 : Sta Z T7.heap "org/hourbook/contract/RepeatedHour" "COUNTED" "Lorg/hourbook/contract/RepeatedHour;" (.ref w_COUNTED) := (own_Sta_keep S_COUNTED K7 own_p0)
      have c10 : Exa Z T7.heap w_COUNTED "org/hourbook/contract/RepeatedHour" := (E_w_COUNTED.keep K7)
      obtain ⟨cq8, kq8, q8a, q8b, q8c⟩ := isOf hZ rfl c10
      obtain ⟨_, _, ⟨T8, L8, k8, n8⟩, -, X8, ⟨Lc8, hQ8, l8, y8, z8⟩, st8⟩ := X7.virtualBack hx (y := (⟨"org/hourbook/contract/RepeatedHour", "admits", "(Lorg/hourbook/calendar/HourEnding;)Z"⟩ : MethodName)) (z := (⟨"org/hourbook/contract/RepeatedHour", "admits", "(Lorg/hourbook/calendar/HourEnding;)Z"⟩ : MethodName)) hown (mvT hZ (hw _ (List.mem_of_getElem? (i := 22) rfl))) (mvT hZ (hw _ (List.mem_of_getElem? (i := 23) rfl))) (notFace_of_selects (args := #[]) (mvT hZ (hw _ (List.mem_of_getElem? (i := 25) rfl)))) (mvT hZ (hw _ (List.mem_of_getElem? (i := 25) rfl))) (mvT hZ (hw _ (List.mem_of_getElem? (i := 24) rfl))) (by decide) (backOf (W := 0) (rm4_c l Z a0 hw [] w_COUNTED b4 w_COUNTED T7.heap n0 Z7 c9 (rfl : w_COUNTED = w_COUNTED)) hZ (hw _ (List.mem_of_getElem? (i := 26) rfl)) (hw _ (List.mem_of_getElem? (i := 2) rfl)) (by decide) (by decide)) q8a q8c (g := (mkF m 92 #[.val (.int p0), .val (.int p1), .val (.int p2), .val (.int (0 : Int32)), .val (.int (0 : Int32)), .val (.int (((p1 &&& (2147483647 : Int32)) % (24 : Int32)) + (1 : Int32))), .val (.ref w_COUNTED), .val (.ref b4), .val (.int (1 : Int32))] [(.ref b4), (.ref w_COUNTED)])) rfl (by rw [hml]; rfl) (Steps.refl _) (argsL := [(.ref b4)]) (rest := []) (lenOf pd_3 rfl) rfl (by show 2 * 0 + _ ≤ _; exact Nat.le_of_eq rfl) (hb hby at_92) (fun _ _ => ⟨rfl, rfl, (by decide : 1 + 0 ≤ _), (by decide : 2 + 0 ≤ _)⟩)
      dsimp only [Pt.U, Pt.locs, Pt.cells, Pt.slots] at X8 l8 y8 z8 st8 hQ8
      subst l8 y8 z8
      obtain ⟨rfl, Nq8, q8_0⟩ := hQ8
      have N8 := Fr.app N7 Nq8
      refine Go.tr st8 ?_
      show Go p e below _ (T8.setTop (mkF m 95 #[.val (.int p0), .val (.int p1), .val (.int p2), .val (.int (0 : Int32)), .val (.int (0 : Int32)), .val (.int (((p1 &&& (2147483647 : Int32)) % (24 : Int32)) + (1 : Int32))), .val (.ref w_COUNTED), .val (.ref b4), .val (.int (1 : Int32))] [(.int (1 : Int32))]))
      refine Go.of (fun _ k => XS.iload X8.here hx rfl (hb hby at_95) rfl  k) ?_
      show Go p e below _ (T8.setTop (mkF m 97 #[.val (.int p0), .val (.int p1), .val (.int p2), .val (.int (0 : Int32)), .val (.int (0 : Int32)), .val (.int (((p1 &&& (2147483647 : Int32)) % (24 : Int32)) + (1 : Int32))), .val (.ref w_COUNTED), .val (.ref b4), .val (.int (1 : Int32))] [(.int (1 : Int32)), (.int (1 : Int32))]))
      refine Go.of (fun _ k => XS.icmpNo X8.here hx rfl (hb hby at_97) rfl (teq (by decide : (1 : Int32) = (1 : Int32))).2 k) ?_
      show Go p e below _ (T8.setTop (mkF m 100 #[.val (.int p0), .val (.int p1), .val (.int p2), .val (.int (0 : Int32)), .val (.int (0 : Int32)), .val (.int (((p1 &&& (2147483647 : Int32)) % (24 : Int32)) + (1 : Int32))), .val (.ref w_COUNTED), .val (.ref b4), .val (.int (1 : Int32))] []))
      refine Go.of (fun _ k => XS.iconst X8.here hx rfl (hb hby at_100) k) ?_
      show Go p e below _ (T8.setTop (mkF m 101 #[.val (.int p0), .val (.int p1), .val (.int p2), .val (.int (0 : Int32)), .val (.int (0 : Int32)), .val (.int (((p1 &&& (2147483647 : Int32)) % (24 : Int32)) + (1 : Int32))), .val (.ref w_COUNTED), .val (.ref b4), .val (.int (1 : Int32))] [(.int (1 : Int32))]))
      refine Go.of (fun _ k => XS.goto X8.here hx rfl (pc0 := 101) (pc' := 105) rfl (hb hby at_101) (by decide) (by decide) k) ?_
      show Go p e below _ (T8.setTop (mkF m 105 #[.val (.int p0), .val (.int p1), .val (.int p2), .val (.int (0 : Int32)), .val (.int (0 : Int32)), .val (.int (((p1 &&& (2147483647 : Int32)) % (24 : Int32)) + (1 : Int32))), .val (.ref w_COUNTED), .val (.ref b4), .val (.int (1 : Int32))] [(.int (1 : Int32))]))
      obtain ⟨fs, hr, hrun, hended, hW, hsame⟩ := X8.leave (v := some (.int (1 : Int32))) (fun h => by rw [Bd.returns] at h; cases h)
      refine Go.mk _ _ ?_ hrun hended ⟨_, _, rfl, ?_, ⟨_, rfl⟩, hW, hsame.mono (by decide) (by decide)⟩
      · exact retN X8 hx (t := .boolean) Bd.returns (by simp) (hb hby at_105) hr
      · show Q0 Z p0 p1 p2 w_COUNTED w_LEFT_OUT h0 n0 _ T8.heap _
        rw [q8_0]
        exact ⟨rfl, N8⟩
    ·
      refine Go.of (fun _ k => XS.ifNo X0.here hx rfl (hb hby at_15) rfl ((if0 _ _).trans (feq hc2).1) k) ?_
      show Go p e below _ (s₁.setTop (mkF m 18 #[.val (.int p0), .val (.int p1), .val (.int p2), .val (.int (0 : Int32)), .unset, .unset, .unset, .unset, .unset] []))
      refine Go.of (fun _ k => XS.iconst X0.here hx rfl (hb hby at_18) k) ?_
      show Go p e below _ (s₁.setTop (mkF m 19 #[.val (.int p0), .val (.int p1), .val (.int p2), .val (.int (0 : Int32)), .unset, .unset, .unset, .unset, .unset] [(.int (1 : Int32))]))
      refine Go.of (fun _ k => XS.goto X0.here hx rfl (pc0 := 19) (pc' := 23) rfl (hb hby at_19) (by decide) (by decide) k) ?_
      show Go p e below _ (s₁.setTop (mkF m 23 #[.val (.int p0), .val (.int p1), .val (.int p2), .val (.int (0 : Int32)), .unset, .unset, .unset, .unset, .unset] [(.int (1 : Int32))]))
      refine Go.of (fun _ k => XS.istore X0.here hx rfl (hb hby at_23) rfl (l' := #[.val (.int p0), .val (.int p1), .val (.int p2), .val (.int (0 : Int32)), .val (.int (1 : Int32)), .unset, .unset, .unset, .unset]) rfl k) ?_
      show Go p e below _ (s₁.setTop (mkF m 25 #[.val (.int p0), .val (.int p1), .val (.int p2), .val (.int (0 : Int32)), .val (.int (1 : Int32)), .unset, .unset, .unset, .unset] []))
      refine Go.of (fun _ k => XS.iloadN X0.here hx rfl (hb hby at_25) rfl  k) ?_
      show Go p e below _ (s₁.setTop (mkF m 26 #[.val (.int p0), .val (.int p1), .val (.int p2), .val (.int (0 : Int32)), .val (.int (1 : Int32)), .unset, .unset, .unset, .unset] [(.int p1)]))
      refine Go.of (fun _ k => X0.ldcInt hx hown (mvT hZ (hw _ (List.mem_of_getElem? (i := 0) rfl))) (g := (mkF m 26 #[.val (.int p0), .val (.int p1), .val (.int p2), .val (.int (0 : Int32)), .val (.int (1 : Int32)), .unset, .unset, .unset, .unset] [(.int p1)])) rfl (hb hby at_26) _ k) ?_
      show Go p e below _ (s₁.setTop (mkF m 28 #[.val (.int p0), .val (.int p1), .val (.int p2), .val (.int (0 : Int32)), .val (.int (1 : Int32)), .unset, .unset, .unset, .unset] [(.int (2147483647 : Int32)), (.int p1)]))
      refine Go.of (fun _ k => XS.iand X0.here hx rfl (hb hby at_28) rfl k) ?_
      show Go p e below _ (s₁.setTop (mkF m 29 #[.val (.int p0), .val (.int p1), .val (.int p2), .val (.int (0 : Int32)), .val (.int (1 : Int32)), .unset, .unset, .unset, .unset] [(.int (p1 &&& (2147483647 : Int32)))]))
      refine Go.of (fun _ k => XS.bipush X0.here hx rfl (hb hby at_29) k) ?_
      show Go p e below _ (s₁.setTop (mkF m 31 #[.val (.int p0), .val (.int p1), .val (.int p2), .val (.int (0 : Int32)), .val (.int (1 : Int32)), .unset, .unset, .unset, .unset] [(.int (24 : Int32)), (.int (p1 &&& (2147483647 : Int32)))]))
      refine Go.of (fun _ k => iremM X0 hx rfl (hb hby at_31) rfl (by decide) k) ?_
      show Go p e below _ (s₁.setTop (mkF m 32 #[.val (.int p0), .val (.int p1), .val (.int p2), .val (.int (0 : Int32)), .val (.int (1 : Int32)), .unset, .unset, .unset, .unset] [(.int ((p1 &&& (2147483647 : Int32)) % (24 : Int32)))]))
      refine Go.of (fun _ k => XS.iconst X0.here hx rfl (hb hby at_32) k) ?_
      show Go p e below _ (s₁.setTop (mkF m 33 #[.val (.int p0), .val (.int p1), .val (.int p2), .val (.int (0 : Int32)), .val (.int (1 : Int32)), .unset, .unset, .unset, .unset] [(.int (1 : Int32)), (.int ((p1 &&& (2147483647 : Int32)) % (24 : Int32)))]))
      refine Go.of (fun _ k => XS.iadd X0.here hx rfl (hb hby at_33) rfl k) ?_
      show Go p e below _ (s₁.setTop (mkF m 34 #[.val (.int p0), .val (.int p1), .val (.int p2), .val (.int (0 : Int32)), .val (.int (1 : Int32)), .unset, .unset, .unset, .unset] [(.int (((p1 &&& (2147483647 : Int32)) % (24 : Int32)) + (1 : Int32)))]))
      refine Go.of (fun _ k => XS.istore X0.here hx rfl (hb hby at_34) rfl (l' := #[.val (.int p0), .val (.int p1), .val (.int p2), .val (.int (0 : Int32)), .val (.int (1 : Int32)), .val (.int (((p1 &&& (2147483647 : Int32)) % (24 : Int32)) + (1 : Int32))), .unset, .unset, .unset]) rfl k) ?_
      show Go p e below _ (s₁.setTop (mkF m 36 #[.val (.int p0), .val (.int p1), .val (.int p2), .val (.int (0 : Int32)), .val (.int (1 : Int32)), .val (.int (((p1 &&& (2147483647 : Int32)) % (24 : Int32)) + (1 : Int32))), .unset, .unset, .unset] []))
      refine Go.of (fun _ k => XS.iloadN X0.here hx rfl (hb hby at_36) rfl  k) ?_
      show Go p e below _ (s₁.setTop (mkF m 37 #[.val (.int p0), .val (.int p1), .val (.int p2), .val (.int (0 : Int32)), .val (.int (1 : Int32)), .val (.int (((p1 &&& (2147483647 : Int32)) % (24 : Int32)) + (1 : Int32))), .unset, .unset, .unset] [(.int (0 : Int32))]))
      refine Go.of (fun _ k => XS.ifYes X0.here hx rfl (pc0 := 37) (pc' := 46) rfl (hb hby at_37) rfl ((if0 _ _).trans (teq (by decide : (0 : Int32) = (0 : Int32))).1) (by decide) (by decide) k) ?_
      show Go p e below _ (s₁.setTop (mkF m 46 #[.val (.int p0), .val (.int p1), .val (.int p2), .val (.int (0 : Int32)), .val (.int (1 : Int32)), .val (.int (((p1 &&& (2147483647 : Int32)) % (24 : Int32)) + (1 : Int32))), .unset, .unset, .unset] []))
      obtain ⟨T12, X12, e12, st12⟩ := getS2 X0 hx hZ hown (host := "") (Or.inl (hw _ (List.mem_of_getElem? (i := 1) rfl))) Via.refl e0 S_COUNTED (g := (mkF m 46 #[.val (.int p0), .val (.int p1), .val (.int p2), .val (.int (0 : Int32)), .val (.int (1 : Int32)), .val (.int (((p1 &&& (2147483647 : Int32)) % (24 : Int32)) + (1 : Int32))), .unset, .unset, .unset] [])) rfl (hb hby at_46)
      refine Go.of st12 ?_
      show Go p e below _ (T12.setTop (mkF m 49 #[.val (.int p0), .val (.int p1), .val (.int p2), .val (.int (0 : Int32)), .val (.int (1 : Int32)), .val (.int (((p1 &&& (2147483647 : Int32)) % (24 : Int32)) + (1 : Int32))), .unset, .unset, .unset] [(.ref w_COUNTED)]))
      refine Go.of (fun _ k => XS.astore X12.here hx rfl (hb hby at_49) rfl rfl (l' := #[.val (.int p0), .val (.int p1), .val (.int p2), .val (.int (0 : Int32)), .val (.int (1 : Int32)), .val (.int (((p1 &&& (2147483647 : Int32)) % (24 : Int32)) + (1 : Int32))), .val (.ref w_COUNTED), .unset, .unset]) rfl k) ?_
      show Go p e below _ (T12.setTop (mkF m 51 #[.val (.int p0), .val (.int p1), .val (.int p2), .val (.int (0 : Int32)), .val (.int (1 : Int32)), .val (.int (((p1 &&& (2147483647 : Int32)) % (24 : Int32)) + (1 : Int32))), .val (.ref w_COUNTED), .unset, .unset] []))
      obtain ⟨T13, h13, X13, e13, E13, A13, D13, -, st13⟩ := newO X12 hx hZ hown (hw _ (List.mem_of_getElem? (i := 4) rfl)) (hw _ (List.mem_of_getElem? (i := 5) rfl)) (hw _ (List.mem_of_getElem? (i := 6) rfl)) e12 (g := (mkF m 51 #[.val (.int p0), .val (.int p1), .val (.int p2), .val (.int (0 : Int32)), .val (.int (1 : Int32)), .val (.int (((p1 &&& (2147483647 : Int32)) % (24 : Int32)) + (1 : Int32))), .val (.ref w_COUNTED), .unset, .unset] [])) rfl (hb hby at_51) (by decide) (by decide)
      obtain ⟨b13, g13⟩ : ∃ z, z = h0.size := ⟨_, rfl⟩
      rw [← g13] at A13 D13 st13
      refine Go.of st13 ?_
      have g_b13 : n0 ≤ b13 := Nat.le_trans Z0 (Nat.le_of_eq g13.symm)
      have sz_b13 : h0.size ≤ b13 := Nat.le_trans ((Keep.refl h0 [])).1 (Nat.le_of_eq g13.symm)
      have K13 : Keep h0 h13 [] := ((Keep.refl h0 [])).ext E13
      have Z13 : n0 ≤ h13.size := Nat.le_trans Z0 E13.1
      have f14 : Fld Z h13 b13 "org/hourbook/calendar/HourEnding" "value" "I" (.int (0 : Int32)) := D13 (Or.inr (hw _ (List.mem_of_getElem? (i := 19) rfl))) (ty := .int) (by decide)
      have f15 : Fld Z h13 b13 "org/hourbook/calendar/HourEnding" "repeated" "Z" (.int (0 : Int32)) := D13 (Or.inr (hw _ (List.mem_of_getElem? (i := 21) rfl))) (ty := .boolean) (by decide)
      show Go p e below _ (T13.setTop (mkF m 54 #[.val (.int p0), .val (.int p1), .val (.int p2), .val (.int (0 : Int32)), .val (.int (1 : Int32)), .val (.int (((p1 &&& (2147483647 : Int32)) % (24 : Int32)) + (1 : Int32))), .val (.ref w_COUNTED), .unset, .unset] [(.ref b13)]))
      refine Go.of (fun _ k => XS.dup X13.here hx rfl (hb hby at_54) rfl rfl k) ?_
      show Go p e below _ (T13.setTop (mkF m 55 #[.val (.int p0), .val (.int p1), .val (.int p2), .val (.int (0 : Int32)), .val (.int (1 : Int32)), .val (.int (((p1 &&& (2147483647 : Int32)) % (24 : Int32)) + (1 : Int32))), .val (.ref w_COUNTED), .unset, .unset] [(.ref b13), (.ref b13)]))
      refine Go.of (fun _ k => XS.iload X13.here hx rfl (hb hby at_55) rfl  k) ?_
      show Go p e below _ (T13.setTop (mkF m 57 #[.val (.int p0), .val (.int p1), .val (.int p2), .val (.int (0 : Int32)), .val (.int (1 : Int32)), .val (.int (((p1 &&& (2147483647 : Int32)) % (24 : Int32)) + (1 : Int32))), .val (.ref w_COUNTED), .unset, .unset] [(.int (((p1 &&& (2147483647 : Int32)) % (24 : Int32)) + (1 : Int32))), (.ref b13), (.ref b13)]))
      refine Go.of (fun _ k => XS.iload X13.here hx rfl (hb hby at_57) rfl  k) ?_
      show Go p e below _ (T13.setTop (mkF m 59 #[.val (.int p0), .val (.int p1), .val (.int p2), .val (.int (0 : Int32)), .val (.int (1 : Int32)), .val (.int (((p1 &&& (2147483647 : Int32)) % (24 : Int32)) + (1 : Int32))), .val (.ref w_COUNTED), .unset, .unset] [(.int (1 : Int32)), (.int (((p1 &&& (2147483647 : Int32)) % (24 : Int32)) + (1 : Int32))), (.ref b13), (.ref b13)]))
      obtain ⟨_, _, ⟨T16, L16, k16, n16⟩, -, X16, ⟨Lc16, hQ16, l16, y16, z16⟩, st16⟩ := X13.specialBack hx (y := (⟨"org/hourbook/calendar/HourEnding", "<init>", "(IZ)V"⟩ : MethodName)) rfl hown (mvT hZ (hw _ (List.mem_of_getElem? (i := 7) rfl))) (mvT hZ (hw _ (List.mem_of_getElem? (i := 8) rfl))) (mvT hZ (hw _ (List.mem_of_getElem? (i := 9) rfl))) (by decide) (backOf (W := 1) (rm1 l Z a0 hw [] b13 (((p1 &&& (2147483647 : Int32)) % (24 : Int32)) + (1 : Int32)) (1 : Int32) (.int (0 : Int32)) (.int (0 : Int32)) h13 n0 Z13 A13 f14 g_b13 f15) hZ (hw _ (List.mem_of_getElem? (i := 9) rfl)) (hw _ (List.mem_of_getElem? (i := 6) rfl)) (by decide) (by decide)) (g := (mkF m 59 #[.val (.int p0), .val (.int p1), .val (.int p2), .val (.int (0 : Int32)), .val (.int (1 : Int32)), .val (.int (((p1 &&& (2147483647 : Int32)) % (24 : Int32)) + (1 : Int32))), .val (.ref w_COUNTED), .unset, .unset] [(.int (1 : Int32)), (.int (((p1 &&& (2147483647 : Int32)) % (24 : Int32)) + (1 : Int32))), (.ref b13), (.ref b13)])) rfl (by rw [hml]; rfl) (Steps.refl _) (a := b13) (argsL := [(.int (((p1 &&& (2147483647 : Int32)) % (24 : Int32)) + (1 : Int32))), (.int (1 : Int32))]) (rest := [(.ref b13)]) (lenOf pd_2 rfl) rfl (by show 2 * 0 + _ ≤ _; exact Nat.le_of_eq rfl) (hb hby at_59) (fun _ _ => ⟨rfl, e13, (by decide : 1 + 0 ≤ _), (by decide : 2 + 0 ≤ _)⟩)
      dsimp only [Pt.U, Pt.locs, Pt.cells, Pt.slots] at X16 l16 y16 z16 st16 hQ16
      subst l16 y16 z16
      obtain ⟨rfl, Nq16, q16_0, q16_1, q16_2, q16_3⟩ := hQ16
      have N16 := Fr.app N0 Nq16
      refine Go.tr st16 ?_
      have K16 : Keep h0 T16.heap [] := (K13).trans q16_0 (allS (Or.inr sz_b13) all0)
      have Z16 : n0 ≤ T16.heap.size := Nat.le_trans Z13 q16_0.1
      show Go p e below _ (T16.setTop (mkF m 62 #[.val (.int p0), .val (.int p1), .val (.int p2), .val (.int (0 : Int32)), .val (.int (1 : Int32)), .val (.int (((p1 &&& (2147483647 : Int32)) % (24 : Int32)) + (1 : Int32))), .val (.ref w_COUNTED), .unset, .unset] [(.ref b13)]))
      refine Go.of (fun _ k => XS.astore X16.here hx rfl (hb hby at_62) rfl rfl (l' := #[.val (.int p0), .val (.int p1), .val (.int p2), .val (.int (0 : Int32)), .val (.int (1 : Int32)), .val (.int (((p1 &&& (2147483647 : Int32)) % (24 : Int32)) + (1 : Int32))), .val (.ref w_COUNTED), .val (.ref b13), .unset]) rfl k) ?_
      show Go p e below _ (T16.setTop (mkF m 64 #[.val (.int p0), .val (.int p1), .val (.int p2), .val (.int (0 : Int32)), .val (.int (1 : Int32)), .val (.int (((p1 &&& (2147483647 : Int32)) % (24 : Int32)) + (1 : Int32))), .val (.ref w_COUNTED), .val (.ref b13), .unset] []))
      refine Go.of (fun _ k => XS.iloadN X16.here hx rfl (hb hby at_64) rfl  k) ?_
      show Go p e below _ (T16.setTop (mkF m 65 #[.val (.int p0), .val (.int p1), .val (.int p2), .val (.int (0 : Int32)), .val (.int (1 : Int32)), .val (.int (((p1 &&& (2147483647 : Int32)) % (24 : Int32)) + (1 : Int32))), .val (.ref w_COUNTED), .val (.ref b13), .unset] [(.int (0 : Int32))]))
      refine Go.of (fun _ k => XS.ifYes X16.here hx rfl (pc0 := 65) (pc' := 85) rfl (hb hby at_65) rfl ((if0 _ _).trans (teq (by decide : (0 : Int32) = (0 : Int32))).1) (by decide) (by decide) k) ?_
      show Go p e below _ (T16.setTop (mkF m 85 #[.val (.int p0), .val (.int p1), .val (.int p2), .val (.int (0 : Int32)), .val (.int (1 : Int32)), .val (.int (((p1 &&& (2147483647 : Int32)) % (24 : Int32)) + (1 : Int32))), .val (.ref w_COUNTED), .val (.ref b13), .unset] []))
      refine Go.of (fun _ k => XS.iconst X16.here hx rfl (hb hby at_85) k) ?_
      show Go p e below _ (T16.setTop (mkF m 86 #[.val (.int p0), .val (.int p1), .val (.int p2), .val (.int (0 : Int32)), .val (.int (1 : Int32)), .val (.int (((p1 &&& (2147483647 : Int32)) % (24 : Int32)) + (1 : Int32))), .val (.ref w_COUNTED), .val (.ref b13), .unset] [(.int (1 : Int32))]))
      refine Go.of (fun _ k => XS.istore X16.here hx rfl (hb hby at_86) rfl (l' := #[.val (.int p0), .val (.int p1), .val (.int p2), .val (.int (0 : Int32)), .val (.int (1 : Int32)), .val (.int (((p1 &&& (2147483647 : Int32)) % (24 : Int32)) + (1 : Int32))), .val (.ref w_COUNTED), .val (.ref b13), .val (.int (1 : Int32))]) rfl k) ?_
      show Go p e below _ (T16.setTop (mkF m 88 #[.val (.int p0), .val (.int p1), .val (.int p2), .val (.int (0 : Int32)), .val (.int (1 : Int32)), .val (.int (((p1 &&& (2147483647 : Int32)) % (24 : Int32)) + (1 : Int32))), .val (.ref w_COUNTED), .val (.ref b13), .val (.int (1 : Int32))] []))
      refine Go.of (fun _ k => XS.aload X16.here hx rfl (hb hby at_88) rfl rfl k) ?_
      show Go p e below _ (T16.setTop (mkF m 90 #[.val (.int p0), .val (.int p1), .val (.int p2), .val (.int (0 : Int32)), .val (.int (1 : Int32)), .val (.int (((p1 &&& (2147483647 : Int32)) % (24 : Int32)) + (1 : Int32))), .val (.ref w_COUNTED), .val (.ref b13), .val (.int (1 : Int32))] [(.ref w_COUNTED)]))
      refine Go.of (fun _ k => XS.aload X16.here hx rfl (hb hby at_90) rfl rfl k) ?_
      show Go p e below _ (T16.setTop (mkF m 92 #[.val (.int p0), .val (.int p1), .val (.int p2), .val (.int (0 : Int32)), .val (.int (1 : Int32)), .val (.int (((p1 &&& (2147483647 : Int32)) % (24 : Int32)) + (1 : Int32))), .val (.ref w_COUNTED), .val (.ref b13), .val (.int (1 : Int32))] [(.ref b13), (.ref w_COUNTED)]))
      have c18 : Sta Z T16.heap "org/hourbook/contract/RepeatedHour" "COUNTED" "Lorg/hourbook/contract/RepeatedHour;" (.ref w_COUNTED) := (own_Sta_keep S_COUNTED K16 own_p0)
      have c19 : Exa Z T16.heap w_COUNTED "org/hourbook/contract/RepeatedHour" := (E_w_COUNTED.keep K16)
      obtain ⟨cq17, kq17, q17a, q17b, q17c⟩ := isOf hZ rfl c19
      obtain ⟨_, _, ⟨T17, L17, k17, n17⟩, -, X17, ⟨Lc17, hQ17, l17, y17, z17⟩, st17⟩ := X16.virtualBack hx (y := (⟨"org/hourbook/contract/RepeatedHour", "admits", "(Lorg/hourbook/calendar/HourEnding;)Z"⟩ : MethodName)) (z := (⟨"org/hourbook/contract/RepeatedHour", "admits", "(Lorg/hourbook/calendar/HourEnding;)Z"⟩ : MethodName)) hown (mvT hZ (hw _ (List.mem_of_getElem? (i := 22) rfl))) (mvT hZ (hw _ (List.mem_of_getElem? (i := 23) rfl))) (notFace_of_selects (args := #[]) (mvT hZ (hw _ (List.mem_of_getElem? (i := 25) rfl)))) (mvT hZ (hw _ (List.mem_of_getElem? (i := 25) rfl))) (mvT hZ (hw _ (List.mem_of_getElem? (i := 24) rfl))) (by decide) (backOf (W := 0) (rm4_c l Z a0 hw [] w_COUNTED b13 w_COUNTED T16.heap n0 Z16 c18 (rfl : w_COUNTED = w_COUNTED)) hZ (hw _ (List.mem_of_getElem? (i := 26) rfl)) (hw _ (List.mem_of_getElem? (i := 2) rfl)) (by decide) (by decide)) q17a q17c (g := (mkF m 92 #[.val (.int p0), .val (.int p1), .val (.int p2), .val (.int (0 : Int32)), .val (.int (1 : Int32)), .val (.int (((p1 &&& (2147483647 : Int32)) % (24 : Int32)) + (1 : Int32))), .val (.ref w_COUNTED), .val (.ref b13), .val (.int (1 : Int32))] [(.ref b13), (.ref w_COUNTED)])) rfl (by rw [hml]; rfl) (Steps.refl _) (argsL := [(.ref b13)]) (rest := []) (lenOf pd_3 rfl) rfl (by show 2 * 0 + _ ≤ _; exact Nat.le_of_eq rfl) (hb hby at_92) (fun _ _ => ⟨rfl, rfl, (by decide : 1 + 0 ≤ _), (by decide : 2 + 0 ≤ _)⟩)
      dsimp only [Pt.U, Pt.locs, Pt.cells, Pt.slots] at X17 l17 y17 z17 st17 hQ17
      subst l17 y17 z17
      obtain ⟨rfl, Nq17, q17_0⟩ := hQ17
      have N17 := Fr.app N16 Nq17
      refine Go.tr st17 ?_
      show Go p e below _ (T17.setTop (mkF m 95 #[.val (.int p0), .val (.int p1), .val (.int p2), .val (.int (0 : Int32)), .val (.int (1 : Int32)), .val (.int (((p1 &&& (2147483647 : Int32)) % (24 : Int32)) + (1 : Int32))), .val (.ref w_COUNTED), .val (.ref b13), .val (.int (1 : Int32))] [(.int (1 : Int32))]))
      refine Go.of (fun _ k => XS.iload X17.here hx rfl (hb hby at_95) rfl  k) ?_
      show Go p e below _ (T17.setTop (mkF m 97 #[.val (.int p0), .val (.int p1), .val (.int p2), .val (.int (0 : Int32)), .val (.int (1 : Int32)), .val (.int (((p1 &&& (2147483647 : Int32)) % (24 : Int32)) + (1 : Int32))), .val (.ref w_COUNTED), .val (.ref b13), .val (.int (1 : Int32))] [(.int (1 : Int32)), (.int (1 : Int32))]))
      refine Go.of (fun _ k => XS.icmpNo X17.here hx rfl (hb hby at_97) rfl (teq (by decide : (1 : Int32) = (1 : Int32))).2 k) ?_
      show Go p e below _ (T17.setTop (mkF m 100 #[.val (.int p0), .val (.int p1), .val (.int p2), .val (.int (0 : Int32)), .val (.int (1 : Int32)), .val (.int (((p1 &&& (2147483647 : Int32)) % (24 : Int32)) + (1 : Int32))), .val (.ref w_COUNTED), .val (.ref b13), .val (.int (1 : Int32))] []))
      refine Go.of (fun _ k => XS.iconst X17.here hx rfl (hb hby at_100) k) ?_
      show Go p e below _ (T17.setTop (mkF m 101 #[.val (.int p0), .val (.int p1), .val (.int p2), .val (.int (0 : Int32)), .val (.int (1 : Int32)), .val (.int (((p1 &&& (2147483647 : Int32)) % (24 : Int32)) + (1 : Int32))), .val (.ref w_COUNTED), .val (.ref b13), .val (.int (1 : Int32))] [(.int (1 : Int32))]))
      refine Go.of (fun _ k => XS.goto X17.here hx rfl (pc0 := 101) (pc' := 105) rfl (hb hby at_101) (by decide) (by decide) k) ?_
      show Go p e below _ (T17.setTop (mkF m 105 #[.val (.int p0), .val (.int p1), .val (.int p2), .val (.int (0 : Int32)), .val (.int (1 : Int32)), .val (.int (((p1 &&& (2147483647 : Int32)) % (24 : Int32)) + (1 : Int32))), .val (.ref w_COUNTED), .val (.ref b13), .val (.int (1 : Int32))] [(.int (1 : Int32))]))
      obtain ⟨fs, hr, hrun, hended, hW, hsame⟩ := X17.leave (v := some (.int (1 : Int32))) (fun h => by rw [Bd.returns] at h; cases h)
      refine Go.mk _ _ ?_ hrun hended ⟨_, _, rfl, ?_, ⟨_, rfl⟩, hW, hsame.mono (by decide) (by decide)⟩
      · exact retN X17 hx (t := .boolean) Bd.returns (by simp) (hb hby at_105) hr
      · show Q0 Z p0 p1 p2 w_COUNTED w_LEFT_OUT h0 n0 _ T17.heap _
        rw [q17_0]
        exact ⟨rfl, N17⟩
  ·
    refine Go.of (fun _ k => XS.ifNo X0.here hx rfl (hb hby at_3) rfl ((if0 _ _).trans (feq hc1).1) k) ?_
    show Go p e below _ (s₁.setTop (mkF m 6 #[.val (.int p0), .val (.int p1), .val (.int p2), .unset, .unset, .unset, .unset, .unset, .unset] []))
    refine Go.of (fun _ k => XS.iconst X0.here hx rfl (hb hby at_6) k) ?_
    show Go p e below _ (s₁.setTop (mkF m 7 #[.val (.int p0), .val (.int p1), .val (.int p2), .unset, .unset, .unset, .unset, .unset, .unset] [(.int (1 : Int32))]))
    refine Go.of (fun _ k => XS.goto X0.here hx rfl (pc0 := 7) (pc' := 11) rfl (hb hby at_7) (by decide) (by decide) k) ?_
    show Go p e below _ (s₁.setTop (mkF m 11 #[.val (.int p0), .val (.int p1), .val (.int p2), .unset, .unset, .unset, .unset, .unset, .unset] [(.int (1 : Int32))]))
    refine Go.of (fun _ k => XS.istoreN X0.here hx rfl (hb hby at_11) rfl (l' := #[.val (.int p0), .val (.int p1), .val (.int p2), .val (.int (1 : Int32)), .unset, .unset, .unset, .unset, .unset]) rfl k) ?_
    show Go p e below _ (s₁.setTop (mkF m 12 #[.val (.int p0), .val (.int p1), .val (.int p2), .val (.int (1 : Int32)), .unset, .unset, .unset, .unset, .unset] []))
    refine Go.of (fun _ k => XS.iloadN X0.here hx rfl (hb hby at_12) rfl  k) ?_
    show Go p e below _ (s₁.setTop (mkF m 13 #[.val (.int p0), .val (.int p1), .val (.int p2), .val (.int (1 : Int32)), .unset, .unset, .unset, .unset, .unset] [(.int p2)]))
    refine Go.of (fun _ k => XS.iconst X0.here hx rfl (hb hby at_13) k) ?_
    show Go p e below _ (s₁.setTop (mkF m 14 #[.val (.int p0), .val (.int p1), .val (.int p2), .val (.int (1 : Int32)), .unset, .unset, .unset, .unset, .unset] [(.int (1 : Int32)), (.int p2)]))
    refine Go.of (fun _ k => XS.iand X0.here hx rfl (hb hby at_14) rfl k) ?_
    show Go p e below _ (s₁.setTop (mkF m 15 #[.val (.int p0), .val (.int p1), .val (.int p2), .val (.int (1 : Int32)), .unset, .unset, .unset, .unset, .unset] [(.int (p2 &&& (1 : Int32)))]))
    by_cases hc21 : (p2 &&& (1 : Int32)) = (0 : Int32)
    ·
      refine Go.of (fun _ k => XS.ifYes X0.here hx rfl (pc0 := 15) (pc' := 22) rfl (hb hby at_15) rfl ((if0 _ _).trans (teq hc21).1) (by decide) (by decide) k) ?_
      show Go p e below _ (s₁.setTop (mkF m 22 #[.val (.int p0), .val (.int p1), .val (.int p2), .val (.int (1 : Int32)), .unset, .unset, .unset, .unset, .unset] []))
      refine Go.of (fun _ k => XS.iconst X0.here hx rfl (hb hby at_22) k) ?_
      show Go p e below _ (s₁.setTop (mkF m 23 #[.val (.int p0), .val (.int p1), .val (.int p2), .val (.int (1 : Int32)), .unset, .unset, .unset, .unset, .unset] [(.int (0 : Int32))]))
      refine Go.of (fun _ k => XS.istore X0.here hx rfl (hb hby at_23) rfl (l' := #[.val (.int p0), .val (.int p1), .val (.int p2), .val (.int (1 : Int32)), .val (.int (0 : Int32)), .unset, .unset, .unset, .unset]) rfl k) ?_
      show Go p e below _ (s₁.setTop (mkF m 25 #[.val (.int p0), .val (.int p1), .val (.int p2), .val (.int (1 : Int32)), .val (.int (0 : Int32)), .unset, .unset, .unset, .unset] []))
      refine Go.of (fun _ k => XS.iloadN X0.here hx rfl (hb hby at_25) rfl  k) ?_
      show Go p e below _ (s₁.setTop (mkF m 26 #[.val (.int p0), .val (.int p1), .val (.int p2), .val (.int (1 : Int32)), .val (.int (0 : Int32)), .unset, .unset, .unset, .unset] [(.int p1)]))
      refine Go.of (fun _ k => X0.ldcInt hx hown (mvT hZ (hw _ (List.mem_of_getElem? (i := 0) rfl))) (g := (mkF m 26 #[.val (.int p0), .val (.int p1), .val (.int p2), .val (.int (1 : Int32)), .val (.int (0 : Int32)), .unset, .unset, .unset, .unset] [(.int p1)])) rfl (hb hby at_26) _ k) ?_
      show Go p e below _ (s₁.setTop (mkF m 28 #[.val (.int p0), .val (.int p1), .val (.int p2), .val (.int (1 : Int32)), .val (.int (0 : Int32)), .unset, .unset, .unset, .unset] [(.int (2147483647 : Int32)), (.int p1)]))
      refine Go.of (fun _ k => XS.iand X0.here hx rfl (hb hby at_28) rfl k) ?_
      show Go p e below _ (s₁.setTop (mkF m 29 #[.val (.int p0), .val (.int p1), .val (.int p2), .val (.int (1 : Int32)), .val (.int (0 : Int32)), .unset, .unset, .unset, .unset] [(.int (p1 &&& (2147483647 : Int32)))]))
      refine Go.of (fun _ k => XS.bipush X0.here hx rfl (hb hby at_29) k) ?_
      show Go p e below _ (s₁.setTop (mkF m 31 #[.val (.int p0), .val (.int p1), .val (.int p2), .val (.int (1 : Int32)), .val (.int (0 : Int32)), .unset, .unset, .unset, .unset] [(.int (24 : Int32)), (.int (p1 &&& (2147483647 : Int32)))]))
      refine Go.of (fun _ k => iremM X0 hx rfl (hb hby at_31) rfl (by decide) k) ?_
      show Go p e below _ (s₁.setTop (mkF m 32 #[.val (.int p0), .val (.int p1), .val (.int p2), .val (.int (1 : Int32)), .val (.int (0 : Int32)), .unset, .unset, .unset, .unset] [(.int ((p1 &&& (2147483647 : Int32)) % (24 : Int32)))]))
      refine Go.of (fun _ k => XS.iconst X0.here hx rfl (hb hby at_32) k) ?_
      show Go p e below _ (s₁.setTop (mkF m 33 #[.val (.int p0), .val (.int p1), .val (.int p2), .val (.int (1 : Int32)), .val (.int (0 : Int32)), .unset, .unset, .unset, .unset] [(.int (1 : Int32)), (.int ((p1 &&& (2147483647 : Int32)) % (24 : Int32)))]))
      refine Go.of (fun _ k => XS.iadd X0.here hx rfl (hb hby at_33) rfl k) ?_
      show Go p e below _ (s₁.setTop (mkF m 34 #[.val (.int p0), .val (.int p1), .val (.int p2), .val (.int (1 : Int32)), .val (.int (0 : Int32)), .unset, .unset, .unset, .unset] [(.int (((p1 &&& (2147483647 : Int32)) % (24 : Int32)) + (1 : Int32)))]))
      refine Go.of (fun _ k => XS.istore X0.here hx rfl (hb hby at_34) rfl (l' := #[.val (.int p0), .val (.int p1), .val (.int p2), .val (.int (1 : Int32)), .val (.int (0 : Int32)), .val (.int (((p1 &&& (2147483647 : Int32)) % (24 : Int32)) + (1 : Int32))), .unset, .unset, .unset]) rfl k) ?_
      show Go p e below _ (s₁.setTop (mkF m 36 #[.val (.int p0), .val (.int p1), .val (.int p2), .val (.int (1 : Int32)), .val (.int (0 : Int32)), .val (.int (((p1 &&& (2147483647 : Int32)) % (24 : Int32)) + (1 : Int32))), .unset, .unset, .unset] []))
      refine Go.of (fun _ k => XS.iloadN X0.here hx rfl (hb hby at_36) rfl  k) ?_
      show Go p e below _ (s₁.setTop (mkF m 37 #[.val (.int p0), .val (.int p1), .val (.int p2), .val (.int (1 : Int32)), .val (.int (0 : Int32)), .val (.int (((p1 &&& (2147483647 : Int32)) % (24 : Int32)) + (1 : Int32))), .unset, .unset, .unset] [(.int (1 : Int32))]))
      refine Go.of (fun _ k => XS.ifNo X0.here hx rfl (hb hby at_37) rfl ((if0 _ _).trans (feq (by decide : ¬ ((1 : Int32) = (0 : Int32)))).1) k) ?_
      show Go p e below _ (s₁.setTop (mkF m 40 #[.val (.int p0), .val (.int p1), .val (.int p2), .val (.int (1 : Int32)), .val (.int (0 : Int32)), .val (.int (((p1 &&& (2147483647 : Int32)) % (24 : Int32)) + (1 : Int32))), .unset, .unset, .unset] []))
      obtain ⟨T22, X22, e22, st22⟩ := getS2 X0 hx hZ hown (host := "") (Or.inl (hw _ (List.mem_of_getElem? (i := 28) rfl))) Via.refl e0 S_LEFT_OUT (g := (mkF m 40 #[.val (.int p0), .val (.int p1), .val (.int p2), .val (.int (1 : Int32)), .val (.int (0 : Int32)), .val (.int (((p1 &&& (2147483647 : Int32)) % (24 : Int32)) + (1 : Int32))), .unset, .unset, .unset] [])) rfl (hb hby at_40)
      refine Go.of st22 ?_
      show Go p e below _ (T22.setTop (mkF m 43 #[.val (.int p0), .val (.int p1), .val (.int p2), .val (.int (1 : Int32)), .val (.int (0 : Int32)), .val (.int (((p1 &&& (2147483647 : Int32)) % (24 : Int32)) + (1 : Int32))), .unset, .unset, .unset] [(.ref w_LEFT_OUT)]))
      refine Go.of (fun _ k => XS.goto X22.here hx rfl (pc0 := 43) (pc' := 49) rfl (hb hby at_43) (by decide) (by decide) k) ?_
      show Go p e below _ (T22.setTop (mkF m 49 #[.val (.int p0), .val (.int p1), .val (.int p2), .val (.int (1 : Int32)), .val (.int (0 : Int32)), .val (.int (((p1 &&& (2147483647 : Int32)) % (24 : Int32)) + (1 : Int32))), .unset, .unset, .unset] [(.ref w_LEFT_OUT)]))
      refine Go.of (fun _ k => XS.astore X22.here hx rfl (hb hby at_49) rfl rfl (l' := #[.val (.int p0), .val (.int p1), .val (.int p2), .val (.int (1 : Int32)), .val (.int (0 : Int32)), .val (.int (((p1 &&& (2147483647 : Int32)) % (24 : Int32)) + (1 : Int32))), .val (.ref w_LEFT_OUT), .unset, .unset]) rfl k) ?_
      show Go p e below _ (T22.setTop (mkF m 51 #[.val (.int p0), .val (.int p1), .val (.int p2), .val (.int (1 : Int32)), .val (.int (0 : Int32)), .val (.int (((p1 &&& (2147483647 : Int32)) % (24 : Int32)) + (1 : Int32))), .val (.ref w_LEFT_OUT), .unset, .unset] []))
      obtain ⟨T23, h23, X23, e23, E23, A23, D23, -, st23⟩ := newO X22 hx hZ hown (hw _ (List.mem_of_getElem? (i := 4) rfl)) (hw _ (List.mem_of_getElem? (i := 5) rfl)) (hw _ (List.mem_of_getElem? (i := 6) rfl)) e22 (g := (mkF m 51 #[.val (.int p0), .val (.int p1), .val (.int p2), .val (.int (1 : Int32)), .val (.int (0 : Int32)), .val (.int (((p1 &&& (2147483647 : Int32)) % (24 : Int32)) + (1 : Int32))), .val (.ref w_LEFT_OUT), .unset, .unset] [])) rfl (hb hby at_51) (by decide) (by decide)
      obtain ⟨b23, g23⟩ : ∃ z, z = h0.size := ⟨_, rfl⟩
      rw [← g23] at A23 D23 st23
      refine Go.of st23 ?_
      have g_b23 : n0 ≤ b23 := Nat.le_trans Z0 (Nat.le_of_eq g23.symm)
      have sz_b23 : h0.size ≤ b23 := Nat.le_trans ((Keep.refl h0 [])).1 (Nat.le_of_eq g23.symm)
      have K23 : Keep h0 h23 [] := ((Keep.refl h0 [])).ext E23
      have Z23 : n0 ≤ h23.size := Nat.le_trans Z0 E23.1
      have f24 : Fld Z h23 b23 "org/hourbook/calendar/HourEnding" "value" "I" (.int (0 : Int32)) := D23 (Or.inr (hw _ (List.mem_of_getElem? (i := 19) rfl))) (ty := .int) (by decide)
      have f25 : Fld Z h23 b23 "org/hourbook/calendar/HourEnding" "repeated" "Z" (.int (0 : Int32)) := D23 (Or.inr (hw _ (List.mem_of_getElem? (i := 21) rfl))) (ty := .boolean) (by decide)
      show Go p e below _ (T23.setTop (mkF m 54 #[.val (.int p0), .val (.int p1), .val (.int p2), .val (.int (1 : Int32)), .val (.int (0 : Int32)), .val (.int (((p1 &&& (2147483647 : Int32)) % (24 : Int32)) + (1 : Int32))), .val (.ref w_LEFT_OUT), .unset, .unset] [(.ref b23)]))
      refine Go.of (fun _ k => XS.dup X23.here hx rfl (hb hby at_54) rfl rfl k) ?_
      show Go p e below _ (T23.setTop (mkF m 55 #[.val (.int p0), .val (.int p1), .val (.int p2), .val (.int (1 : Int32)), .val (.int (0 : Int32)), .val (.int (((p1 &&& (2147483647 : Int32)) % (24 : Int32)) + (1 : Int32))), .val (.ref w_LEFT_OUT), .unset, .unset] [(.ref b23), (.ref b23)]))
      refine Go.of (fun _ k => XS.iload X23.here hx rfl (hb hby at_55) rfl  k) ?_
      show Go p e below _ (T23.setTop (mkF m 57 #[.val (.int p0), .val (.int p1), .val (.int p2), .val (.int (1 : Int32)), .val (.int (0 : Int32)), .val (.int (((p1 &&& (2147483647 : Int32)) % (24 : Int32)) + (1 : Int32))), .val (.ref w_LEFT_OUT), .unset, .unset] [(.int (((p1 &&& (2147483647 : Int32)) % (24 : Int32)) + (1 : Int32))), (.ref b23), (.ref b23)]))
      refine Go.of (fun _ k => XS.iload X23.here hx rfl (hb hby at_57) rfl  k) ?_
      show Go p e below _ (T23.setTop (mkF m 59 #[.val (.int p0), .val (.int p1), .val (.int p2), .val (.int (1 : Int32)), .val (.int (0 : Int32)), .val (.int (((p1 &&& (2147483647 : Int32)) % (24 : Int32)) + (1 : Int32))), .val (.ref w_LEFT_OUT), .unset, .unset] [(.int (0 : Int32)), (.int (((p1 &&& (2147483647 : Int32)) % (24 : Int32)) + (1 : Int32))), (.ref b23), (.ref b23)]))
      obtain ⟨_, _, ⟨T26, L26, k26, n26⟩, -, X26, ⟨Lc26, hQ26, l26, y26, z26⟩, st26⟩ := X23.specialBack hx (y := (⟨"org/hourbook/calendar/HourEnding", "<init>", "(IZ)V"⟩ : MethodName)) rfl hown (mvT hZ (hw _ (List.mem_of_getElem? (i := 7) rfl))) (mvT hZ (hw _ (List.mem_of_getElem? (i := 8) rfl))) (mvT hZ (hw _ (List.mem_of_getElem? (i := 9) rfl))) (by decide) (backOf (W := 1) (rm1 l Z a0 hw [] b23 (((p1 &&& (2147483647 : Int32)) % (24 : Int32)) + (1 : Int32)) (0 : Int32) (.int (0 : Int32)) (.int (0 : Int32)) h23 n0 Z23 A23 f24 g_b23 f25) hZ (hw _ (List.mem_of_getElem? (i := 9) rfl)) (hw _ (List.mem_of_getElem? (i := 6) rfl)) (by decide) (by decide)) (g := (mkF m 59 #[.val (.int p0), .val (.int p1), .val (.int p2), .val (.int (1 : Int32)), .val (.int (0 : Int32)), .val (.int (((p1 &&& (2147483647 : Int32)) % (24 : Int32)) + (1 : Int32))), .val (.ref w_LEFT_OUT), .unset, .unset] [(.int (0 : Int32)), (.int (((p1 &&& (2147483647 : Int32)) % (24 : Int32)) + (1 : Int32))), (.ref b23), (.ref b23)])) rfl (by rw [hml]; rfl) (Steps.refl _) (a := b23) (argsL := [(.int (((p1 &&& (2147483647 : Int32)) % (24 : Int32)) + (1 : Int32))), (.int (0 : Int32))]) (rest := [(.ref b23)]) (lenOf pd_2 rfl) rfl (by show 2 * 0 + _ ≤ _; exact Nat.le_of_eq rfl) (hb hby at_59) (fun _ _ => ⟨rfl, e23, (by decide : 1 + 0 ≤ _), (by decide : 2 + 0 ≤ _)⟩)
      dsimp only [Pt.U, Pt.locs, Pt.cells, Pt.slots] at X26 l26 y26 z26 st26 hQ26
      subst l26 y26 z26
      obtain ⟨rfl, Nq26, q26_0, q26_1, q26_2, q26_3⟩ := hQ26
      have N26 := Fr.app N0 Nq26
      refine Go.tr st26 ?_
      have K26 : Keep h0 T26.heap [] := (K23).trans q26_0 (allS (Or.inr sz_b23) all0)
      have Z26 : n0 ≤ T26.heap.size := Nat.le_trans Z23 q26_0.1
      show Go p e below _ (T26.setTop (mkF m 62 #[.val (.int p0), .val (.int p1), .val (.int p2), .val (.int (1 : Int32)), .val (.int (0 : Int32)), .val (.int (((p1 &&& (2147483647 : Int32)) % (24 : Int32)) + (1 : Int32))), .val (.ref w_LEFT_OUT), .unset, .unset] [(.ref b23)]))
      refine Go.of (fun _ k => XS.astore X26.here hx rfl (hb hby at_62) rfl rfl (l' := #[.val (.int p0), .val (.int p1), .val (.int p2), .val (.int (1 : Int32)), .val (.int (0 : Int32)), .val (.int (((p1 &&& (2147483647 : Int32)) % (24 : Int32)) + (1 : Int32))), .val (.ref w_LEFT_OUT), .val (.ref b23), .unset]) rfl k) ?_
      show Go p e below _ (T26.setTop (mkF m 64 #[.val (.int p0), .val (.int p1), .val (.int p2), .val (.int (1 : Int32)), .val (.int (0 : Int32)), .val (.int (((p1 &&& (2147483647 : Int32)) % (24 : Int32)) + (1 : Int32))), .val (.ref w_LEFT_OUT), .val (.ref b23), .unset] []))
      refine Go.of (fun _ k => XS.iloadN X26.here hx rfl (hb hby at_64) rfl  k) ?_
      show Go p e below _ (T26.setTop (mkF m 65 #[.val (.int p0), .val (.int p1), .val (.int p2), .val (.int (1 : Int32)), .val (.int (0 : Int32)), .val (.int (((p1 &&& (2147483647 : Int32)) % (24 : Int32)) + (1 : Int32))), .val (.ref w_LEFT_OUT), .val (.ref b23), .unset] [(.int (1 : Int32))]))
      refine Go.of (fun _ k => XS.ifNo X26.here hx rfl (hb hby at_65) rfl ((if0 _ _).trans (feq (by decide : ¬ ((1 : Int32) = (0 : Int32)))).1) k) ?_
      show Go p e below _ (T26.setTop (mkF m 68 #[.val (.int p0), .val (.int p1), .val (.int p2), .val (.int (1 : Int32)), .val (.int (0 : Int32)), .val (.int (((p1 &&& (2147483647 : Int32)) % (24 : Int32)) + (1 : Int32))), .val (.ref w_LEFT_OUT), .val (.ref b23), .unset] []))
      refine Go.of (fun _ k => XS.iload X26.here hx rfl (hb hby at_68) rfl  k) ?_
      show Go p e below _ (T26.setTop (mkF m 70 #[.val (.int p0), .val (.int p1), .val (.int p2), .val (.int (1 : Int32)), .val (.int (0 : Int32)), .val (.int (((p1 &&& (2147483647 : Int32)) % (24 : Int32)) + (1 : Int32))), .val (.ref w_LEFT_OUT), .val (.ref b23), .unset] [(.int (0 : Int32))]))
      refine Go.of (fun _ k => XS.ifYes X26.here hx rfl (pc0 := 70) (pc' := 79) rfl (hb hby at_70) rfl ((if0 _ _).trans (teq (by decide : (0 : Int32) = (0 : Int32))).1) (by decide) (by decide) k) ?_
      show Go p e below _ (T26.setTop (mkF m 79 #[.val (.int p0), .val (.int p1), .val (.int p2), .val (.int (1 : Int32)), .val (.int (0 : Int32)), .val (.int (((p1 &&& (2147483647 : Int32)) % (24 : Int32)) + (1 : Int32))), .val (.ref w_LEFT_OUT), .val (.ref b23), .unset] []))
      refine Go.of (fun _ k => XS.iconst X26.here hx rfl (hb hby at_79) k) ?_
      show Go p e below _ (T26.setTop (mkF m 80 #[.val (.int p0), .val (.int p1), .val (.int p2), .val (.int (1 : Int32)), .val (.int (0 : Int32)), .val (.int (((p1 &&& (2147483647 : Int32)) % (24 : Int32)) + (1 : Int32))), .val (.ref w_LEFT_OUT), .val (.ref b23), .unset] [(.int (1 : Int32))]))
      refine Go.of (fun _ k => XS.istore X26.here hx rfl (hb hby at_80) rfl (l' := #[.val (.int p0), .val (.int p1), .val (.int p2), .val (.int (1 : Int32)), .val (.int (0 : Int32)), .val (.int (((p1 &&& (2147483647 : Int32)) % (24 : Int32)) + (1 : Int32))), .val (.ref w_LEFT_OUT), .val (.ref b23), .val (.int (1 : Int32))]) rfl k) ?_
      show Go p e below _ (T26.setTop (mkF m 82 #[.val (.int p0), .val (.int p1), .val (.int p2), .val (.int (1 : Int32)), .val (.int (0 : Int32)), .val (.int (((p1 &&& (2147483647 : Int32)) % (24 : Int32)) + (1 : Int32))), .val (.ref w_LEFT_OUT), .val (.ref b23), .val (.int (1 : Int32))] []))
      refine Go.of (fun _ k => XS.goto X26.here hx rfl (pc0 := 82) (pc' := 88) rfl (hb hby at_82) (by decide) (by decide) k) ?_
      show Go p e below _ (T26.setTop (mkF m 88 #[.val (.int p0), .val (.int p1), .val (.int p2), .val (.int (1 : Int32)), .val (.int (0 : Int32)), .val (.int (((p1 &&& (2147483647 : Int32)) % (24 : Int32)) + (1 : Int32))), .val (.ref w_LEFT_OUT), .val (.ref b23), .val (.int (1 : Int32))] []))
      refine Go.of (fun _ k => XS.aload X26.here hx rfl (hb hby at_88) rfl rfl k) ?_
      show Go p e below _ (T26.setTop (mkF m 90 #[.val (.int p0), .val (.int p1), .val (.int p2), .val (.int (1 : Int32)), .val (.int (0 : Int32)), .val (.int (((p1 &&& (2147483647 : Int32)) % (24 : Int32)) + (1 : Int32))), .val (.ref w_LEFT_OUT), .val (.ref b23), .val (.int (1 : Int32))] [(.ref w_LEFT_OUT)]))
      refine Go.of (fun _ k => XS.aload X26.here hx rfl (hb hby at_90) rfl rfl k) ?_
      show Go p e below _ (T26.setTop (mkF m 92 #[.val (.int p0), .val (.int p1), .val (.int p2), .val (.int (1 : Int32)), .val (.int (0 : Int32)), .val (.int (((p1 &&& (2147483647 : Int32)) % (24 : Int32)) + (1 : Int32))), .val (.ref w_LEFT_OUT), .val (.ref b23), .val (.int (1 : Int32))] [(.ref b23), (.ref w_LEFT_OUT)]))
      have c28 : Sta Z T26.heap "org/hourbook/contract/RepeatedHour" "COUNTED" "Lorg/hourbook/contract/RepeatedHour;" (.ref w_COUNTED) := (own_Sta_keep S_COUNTED K26 own_p0)
      have c29 : Exa Z T26.heap w_LEFT_OUT "org/hourbook/contract/RepeatedHour" := (E_w_LEFT_OUT.keep K26)
      obtain ⟨cq27, kq27, q27a, q27b, q27c⟩ := isOf hZ rfl c29
      obtain ⟨_, _, ⟨T27, L27, k27, n27⟩, -, X27, ⟨Lc27, hQ27, l27, y27, z27⟩, st27⟩ := X26.virtualBack hx (y := (⟨"org/hourbook/contract/RepeatedHour", "admits", "(Lorg/hourbook/calendar/HourEnding;)Z"⟩ : MethodName)) (z := (⟨"org/hourbook/contract/RepeatedHour", "admits", "(Lorg/hourbook/calendar/HourEnding;)Z"⟩ : MethodName)) hown (mvT hZ (hw _ (List.mem_of_getElem? (i := 22) rfl))) (mvT hZ (hw _ (List.mem_of_getElem? (i := 23) rfl))) (notFace_of_selects (args := #[]) (mvT hZ (hw _ (List.mem_of_getElem? (i := 25) rfl)))) (mvT hZ (hw _ (List.mem_of_getElem? (i := 25) rfl))) (mvT hZ (hw _ (List.mem_of_getElem? (i := 24) rfl))) (by decide) (backOf (W := 0) (rm4_0 l Z a0 hw [] w_LEFT_OUT b23 w_COUNTED (nar .boolean (0 : Int32)) T26.heap n0 Z26 c28 (Ne.symm ne_w_COUNTED_w_LEFT_OUT) q26_2 q26_1 (by decide : (nar .boolean (nar .boolean (0 : Int32))) = (0 : Int32))) hZ (hw _ (List.mem_of_getElem? (i := 26) rfl)) (hw _ (List.mem_of_getElem? (i := 2) rfl)) (by decide) (by decide)) q27a q27c (g := (mkF m 92 #[.val (.int p0), .val (.int p1), .val (.int p2), .val (.int (1 : Int32)), .val (.int (0 : Int32)), .val (.int (((p1 &&& (2147483647 : Int32)) % (24 : Int32)) + (1 : Int32))), .val (.ref w_LEFT_OUT), .val (.ref b23), .val (.int (1 : Int32))] [(.ref b23), (.ref w_LEFT_OUT)])) rfl (by rw [hml]; rfl) (Steps.refl _) (argsL := [(.ref b23)]) (rest := []) (lenOf pd_3 rfl) rfl (by show 2 * 0 + _ ≤ _; exact Nat.le_of_eq rfl) (hb hby at_92) (fun _ _ => ⟨rfl, rfl, (by decide : 1 + 0 ≤ _), (by decide : 2 + 0 ≤ _)⟩)
      dsimp only [Pt.U, Pt.locs, Pt.cells, Pt.slots] at X27 l27 y27 z27 st27 hQ27
      subst l27 y27 z27
      obtain ⟨rfl, Nq27, q27_0⟩ := hQ27
      have N27 := Fr.app N26 Nq27
      refine Go.tr st27 ?_
      show Go p e below _ (T27.setTop (mkF m 95 #[.val (.int p0), .val (.int p1), .val (.int p2), .val (.int (1 : Int32)), .val (.int (0 : Int32)), .val (.int (((p1 &&& (2147483647 : Int32)) % (24 : Int32)) + (1 : Int32))), .val (.ref w_LEFT_OUT), .val (.ref b23), .val (.int (1 : Int32))] [(.int (1 : Int32))]))
      refine Go.of (fun _ k => XS.iload X27.here hx rfl (hb hby at_95) rfl  k) ?_
      show Go p e below _ (T27.setTop (mkF m 97 #[.val (.int p0), .val (.int p1), .val (.int p2), .val (.int (1 : Int32)), .val (.int (0 : Int32)), .val (.int (((p1 &&& (2147483647 : Int32)) % (24 : Int32)) + (1 : Int32))), .val (.ref w_LEFT_OUT), .val (.ref b23), .val (.int (1 : Int32))] [(.int (1 : Int32)), (.int (1 : Int32))]))
      refine Go.of (fun _ k => XS.icmpNo X27.here hx rfl (hb hby at_97) rfl (teq (by decide : (1 : Int32) = (1 : Int32))).2 k) ?_
      show Go p e below _ (T27.setTop (mkF m 100 #[.val (.int p0), .val (.int p1), .val (.int p2), .val (.int (1 : Int32)), .val (.int (0 : Int32)), .val (.int (((p1 &&& (2147483647 : Int32)) % (24 : Int32)) + (1 : Int32))), .val (.ref w_LEFT_OUT), .val (.ref b23), .val (.int (1 : Int32))] []))
      refine Go.of (fun _ k => XS.iconst X27.here hx rfl (hb hby at_100) k) ?_
      show Go p e below _ (T27.setTop (mkF m 101 #[.val (.int p0), .val (.int p1), .val (.int p2), .val (.int (1 : Int32)), .val (.int (0 : Int32)), .val (.int (((p1 &&& (2147483647 : Int32)) % (24 : Int32)) + (1 : Int32))), .val (.ref w_LEFT_OUT), .val (.ref b23), .val (.int (1 : Int32))] [(.int (1 : Int32))]))
      refine Go.of (fun _ k => XS.goto X27.here hx rfl (pc0 := 101) (pc' := 105) rfl (hb hby at_101) (by decide) (by decide) k) ?_
      show Go p e below _ (T27.setTop (mkF m 105 #[.val (.int p0), .val (.int p1), .val (.int p2), .val (.int (1 : Int32)), .val (.int (0 : Int32)), .val (.int (((p1 &&& (2147483647 : Int32)) % (24 : Int32)) + (1 : Int32))), .val (.ref w_LEFT_OUT), .val (.ref b23), .val (.int (1 : Int32))] [(.int (1 : Int32))]))
      obtain ⟨fs, hr, hrun, hended, hW, hsame⟩ := X27.leave (v := some (.int (1 : Int32))) (fun h => by rw [Bd.returns] at h; cases h)
      refine Go.mk _ _ ?_ hrun hended ⟨_, _, rfl, ?_, ⟨_, rfl⟩, hW, hsame.mono (by decide) (by decide)⟩
      · exact retN X27 hx (t := .boolean) Bd.returns (by simp) (hb hby at_105) hr
      · show Q0 Z p0 p1 p2 w_COUNTED w_LEFT_OUT h0 n0 _ T27.heap _
        rw [q27_0]
        exact ⟨rfl, N27⟩
    ·
      refine Go.of (fun _ k => XS.ifNo X0.here hx rfl (hb hby at_15) rfl ((if0 _ _).trans (feq hc21).1) k) ?_
      show Go p e below _ (s₁.setTop (mkF m 18 #[.val (.int p0), .val (.int p1), .val (.int p2), .val (.int (1 : Int32)), .unset, .unset, .unset, .unset, .unset] []))
      refine Go.of (fun _ k => XS.iconst X0.here hx rfl (hb hby at_18) k) ?_
      show Go p e below _ (s₁.setTop (mkF m 19 #[.val (.int p0), .val (.int p1), .val (.int p2), .val (.int (1 : Int32)), .unset, .unset, .unset, .unset, .unset] [(.int (1 : Int32))]))
      refine Go.of (fun _ k => XS.goto X0.here hx rfl (pc0 := 19) (pc' := 23) rfl (hb hby at_19) (by decide) (by decide) k) ?_
      show Go p e below _ (s₁.setTop (mkF m 23 #[.val (.int p0), .val (.int p1), .val (.int p2), .val (.int (1 : Int32)), .unset, .unset, .unset, .unset, .unset] [(.int (1 : Int32))]))
      refine Go.of (fun _ k => XS.istore X0.here hx rfl (hb hby at_23) rfl (l' := #[.val (.int p0), .val (.int p1), .val (.int p2), .val (.int (1 : Int32)), .val (.int (1 : Int32)), .unset, .unset, .unset, .unset]) rfl k) ?_
      show Go p e below _ (s₁.setTop (mkF m 25 #[.val (.int p0), .val (.int p1), .val (.int p2), .val (.int (1 : Int32)), .val (.int (1 : Int32)), .unset, .unset, .unset, .unset] []))
      refine Go.of (fun _ k => XS.iloadN X0.here hx rfl (hb hby at_25) rfl  k) ?_
      show Go p e below _ (s₁.setTop (mkF m 26 #[.val (.int p0), .val (.int p1), .val (.int p2), .val (.int (1 : Int32)), .val (.int (1 : Int32)), .unset, .unset, .unset, .unset] [(.int p1)]))
      refine Go.of (fun _ k => X0.ldcInt hx hown (mvT hZ (hw _ (List.mem_of_getElem? (i := 0) rfl))) (g := (mkF m 26 #[.val (.int p0), .val (.int p1), .val (.int p2), .val (.int (1 : Int32)), .val (.int (1 : Int32)), .unset, .unset, .unset, .unset] [(.int p1)])) rfl (hb hby at_26) _ k) ?_
      show Go p e below _ (s₁.setTop (mkF m 28 #[.val (.int p0), .val (.int p1), .val (.int p2), .val (.int (1 : Int32)), .val (.int (1 : Int32)), .unset, .unset, .unset, .unset] [(.int (2147483647 : Int32)), (.int p1)]))
      refine Go.of (fun _ k => XS.iand X0.here hx rfl (hb hby at_28) rfl k) ?_
      show Go p e below _ (s₁.setTop (mkF m 29 #[.val (.int p0), .val (.int p1), .val (.int p2), .val (.int (1 : Int32)), .val (.int (1 : Int32)), .unset, .unset, .unset, .unset] [(.int (p1 &&& (2147483647 : Int32)))]))
      refine Go.of (fun _ k => XS.bipush X0.here hx rfl (hb hby at_29) k) ?_
      show Go p e below _ (s₁.setTop (mkF m 31 #[.val (.int p0), .val (.int p1), .val (.int p2), .val (.int (1 : Int32)), .val (.int (1 : Int32)), .unset, .unset, .unset, .unset] [(.int (24 : Int32)), (.int (p1 &&& (2147483647 : Int32)))]))
      refine Go.of (fun _ k => iremM X0 hx rfl (hb hby at_31) rfl (by decide) k) ?_
      show Go p e below _ (s₁.setTop (mkF m 32 #[.val (.int p0), .val (.int p1), .val (.int p2), .val (.int (1 : Int32)), .val (.int (1 : Int32)), .unset, .unset, .unset, .unset] [(.int ((p1 &&& (2147483647 : Int32)) % (24 : Int32)))]))
      refine Go.of (fun _ k => XS.iconst X0.here hx rfl (hb hby at_32) k) ?_
      show Go p e below _ (s₁.setTop (mkF m 33 #[.val (.int p0), .val (.int p1), .val (.int p2), .val (.int (1 : Int32)), .val (.int (1 : Int32)), .unset, .unset, .unset, .unset] [(.int (1 : Int32)), (.int ((p1 &&& (2147483647 : Int32)) % (24 : Int32)))]))
      refine Go.of (fun _ k => XS.iadd X0.here hx rfl (hb hby at_33) rfl k) ?_
      show Go p e below _ (s₁.setTop (mkF m 34 #[.val (.int p0), .val (.int p1), .val (.int p2), .val (.int (1 : Int32)), .val (.int (1 : Int32)), .unset, .unset, .unset, .unset] [(.int (((p1 &&& (2147483647 : Int32)) % (24 : Int32)) + (1 : Int32)))]))
      refine Go.of (fun _ k => XS.istore X0.here hx rfl (hb hby at_34) rfl (l' := #[.val (.int p0), .val (.int p1), .val (.int p2), .val (.int (1 : Int32)), .val (.int (1 : Int32)), .val (.int (((p1 &&& (2147483647 : Int32)) % (24 : Int32)) + (1 : Int32))), .unset, .unset, .unset]) rfl k) ?_
      show Go p e below _ (s₁.setTop (mkF m 36 #[.val (.int p0), .val (.int p1), .val (.int p2), .val (.int (1 : Int32)), .val (.int (1 : Int32)), .val (.int (((p1 &&& (2147483647 : Int32)) % (24 : Int32)) + (1 : Int32))), .unset, .unset, .unset] []))
      refine Go.of (fun _ k => XS.iloadN X0.here hx rfl (hb hby at_36) rfl  k) ?_
      show Go p e below _ (s₁.setTop (mkF m 37 #[.val (.int p0), .val (.int p1), .val (.int p2), .val (.int (1 : Int32)), .val (.int (1 : Int32)), .val (.int (((p1 &&& (2147483647 : Int32)) % (24 : Int32)) + (1 : Int32))), .unset, .unset, .unset] [(.int (1 : Int32))]))
      refine Go.of (fun _ k => XS.ifNo X0.here hx rfl (hb hby at_37) rfl ((if0 _ _).trans (feq (by decide : ¬ ((1 : Int32) = (0 : Int32)))).1) k) ?_
      show Go p e below _ (s₁.setTop (mkF m 40 #[.val (.int p0), .val (.int p1), .val (.int p2), .val (.int (1 : Int32)), .val (.int (1 : Int32)), .val (.int (((p1 &&& (2147483647 : Int32)) % (24 : Int32)) + (1 : Int32))), .unset, .unset, .unset] []))
      obtain ⟨T31, X31, e31, st31⟩ := getS2 X0 hx hZ hown (host := "") (Or.inl (hw _ (List.mem_of_getElem? (i := 28) rfl))) Via.refl e0 S_LEFT_OUT (g := (mkF m 40 #[.val (.int p0), .val (.int p1), .val (.int p2), .val (.int (1 : Int32)), .val (.int (1 : Int32)), .val (.int (((p1 &&& (2147483647 : Int32)) % (24 : Int32)) + (1 : Int32))), .unset, .unset, .unset] [])) rfl (hb hby at_40)
      refine Go.of st31 ?_
      show Go p e below _ (T31.setTop (mkF m 43 #[.val (.int p0), .val (.int p1), .val (.int p2), .val (.int (1 : Int32)), .val (.int (1 : Int32)), .val (.int (((p1 &&& (2147483647 : Int32)) % (24 : Int32)) + (1 : Int32))), .unset, .unset, .unset] [(.ref w_LEFT_OUT)]))
      refine Go.of (fun _ k => XS.goto X31.here hx rfl (pc0 := 43) (pc' := 49) rfl (hb hby at_43) (by decide) (by decide) k) ?_
      show Go p e below _ (T31.setTop (mkF m 49 #[.val (.int p0), .val (.int p1), .val (.int p2), .val (.int (1 : Int32)), .val (.int (1 : Int32)), .val (.int (((p1 &&& (2147483647 : Int32)) % (24 : Int32)) + (1 : Int32))), .unset, .unset, .unset] [(.ref w_LEFT_OUT)]))
      refine Go.of (fun _ k => XS.astore X31.here hx rfl (hb hby at_49) rfl rfl (l' := #[.val (.int p0), .val (.int p1), .val (.int p2), .val (.int (1 : Int32)), .val (.int (1 : Int32)), .val (.int (((p1 &&& (2147483647 : Int32)) % (24 : Int32)) + (1 : Int32))), .val (.ref w_LEFT_OUT), .unset, .unset]) rfl k) ?_
      show Go p e below _ (T31.setTop (mkF m 51 #[.val (.int p0), .val (.int p1), .val (.int p2), .val (.int (1 : Int32)), .val (.int (1 : Int32)), .val (.int (((p1 &&& (2147483647 : Int32)) % (24 : Int32)) + (1 : Int32))), .val (.ref w_LEFT_OUT), .unset, .unset] []))
      obtain ⟨T32, h32, X32, e32, E32, A32, D32, -, st32⟩ := newO X31 hx hZ hown (hw _ (List.mem_of_getElem? (i := 4) rfl)) (hw _ (List.mem_of_getElem? (i := 5) rfl)) (hw _ (List.mem_of_getElem? (i := 6) rfl)) e31 (g := (mkF m 51 #[.val (.int p0), .val (.int p1), .val (.int p2), .val (.int (1 : Int32)), .val (.int (1 : Int32)), .val (.int (((p1 &&& (2147483647 : Int32)) % (24 : Int32)) + (1 : Int32))), .val (.ref w_LEFT_OUT), .unset, .unset] [])) rfl (hb hby at_51) (by decide) (by decide)
      obtain ⟨b32, g32⟩ : ∃ z, z = h0.size := ⟨_, rfl⟩
      rw [← g32] at A32 D32 st32
      refine Go.of st32 ?_
      have g_b32 : n0 ≤ b32 := Nat.le_trans Z0 (Nat.le_of_eq g32.symm)
      have sz_b32 : h0.size ≤ b32 := Nat.le_trans ((Keep.refl h0 [])).1 (Nat.le_of_eq g32.symm)
      have K32 : Keep h0 h32 [] := ((Keep.refl h0 [])).ext E32
      have Z32 : n0 ≤ h32.size := Nat.le_trans Z0 E32.1
      have f33 : Fld Z h32 b32 "org/hourbook/calendar/HourEnding" "value" "I" (.int (0 : Int32)) := D32 (Or.inr (hw _ (List.mem_of_getElem? (i := 19) rfl))) (ty := .int) (by decide)
      have f34 : Fld Z h32 b32 "org/hourbook/calendar/HourEnding" "repeated" "Z" (.int (0 : Int32)) := D32 (Or.inr (hw _ (List.mem_of_getElem? (i := 21) rfl))) (ty := .boolean) (by decide)
      show Go p e below _ (T32.setTop (mkF m 54 #[.val (.int p0), .val (.int p1), .val (.int p2), .val (.int (1 : Int32)), .val (.int (1 : Int32)), .val (.int (((p1 &&& (2147483647 : Int32)) % (24 : Int32)) + (1 : Int32))), .val (.ref w_LEFT_OUT), .unset, .unset] [(.ref b32)]))
      refine Go.of (fun _ k => XS.dup X32.here hx rfl (hb hby at_54) rfl rfl k) ?_
      show Go p e below _ (T32.setTop (mkF m 55 #[.val (.int p0), .val (.int p1), .val (.int p2), .val (.int (1 : Int32)), .val (.int (1 : Int32)), .val (.int (((p1 &&& (2147483647 : Int32)) % (24 : Int32)) + (1 : Int32))), .val (.ref w_LEFT_OUT), .unset, .unset] [(.ref b32), (.ref b32)]))
      refine Go.of (fun _ k => XS.iload X32.here hx rfl (hb hby at_55) rfl  k) ?_
      show Go p e below _ (T32.setTop (mkF m 57 #[.val (.int p0), .val (.int p1), .val (.int p2), .val (.int (1 : Int32)), .val (.int (1 : Int32)), .val (.int (((p1 &&& (2147483647 : Int32)) % (24 : Int32)) + (1 : Int32))), .val (.ref w_LEFT_OUT), .unset, .unset] [(.int (((p1 &&& (2147483647 : Int32)) % (24 : Int32)) + (1 : Int32))), (.ref b32), (.ref b32)]))
      refine Go.of (fun _ k => XS.iload X32.here hx rfl (hb hby at_57) rfl  k) ?_
      show Go p e below _ (T32.setTop (mkF m 59 #[.val (.int p0), .val (.int p1), .val (.int p2), .val (.int (1 : Int32)), .val (.int (1 : Int32)), .val (.int (((p1 &&& (2147483647 : Int32)) % (24 : Int32)) + (1 : Int32))), .val (.ref w_LEFT_OUT), .unset, .unset] [(.int (1 : Int32)), (.int (((p1 &&& (2147483647 : Int32)) % (24 : Int32)) + (1 : Int32))), (.ref b32), (.ref b32)]))
      obtain ⟨_, _, ⟨T35, L35, k35, n35⟩, -, X35, ⟨Lc35, hQ35, l35, y35, z35⟩, st35⟩ := X32.specialBack hx (y := (⟨"org/hourbook/calendar/HourEnding", "<init>", "(IZ)V"⟩ : MethodName)) rfl hown (mvT hZ (hw _ (List.mem_of_getElem? (i := 7) rfl))) (mvT hZ (hw _ (List.mem_of_getElem? (i := 8) rfl))) (mvT hZ (hw _ (List.mem_of_getElem? (i := 9) rfl))) (by decide) (backOf (W := 1) (rm1 l Z a0 hw [] b32 (((p1 &&& (2147483647 : Int32)) % (24 : Int32)) + (1 : Int32)) (1 : Int32) (.int (0 : Int32)) (.int (0 : Int32)) h32 n0 Z32 A32 f33 g_b32 f34) hZ (hw _ (List.mem_of_getElem? (i := 9) rfl)) (hw _ (List.mem_of_getElem? (i := 6) rfl)) (by decide) (by decide)) (g := (mkF m 59 #[.val (.int p0), .val (.int p1), .val (.int p2), .val (.int (1 : Int32)), .val (.int (1 : Int32)), .val (.int (((p1 &&& (2147483647 : Int32)) % (24 : Int32)) + (1 : Int32))), .val (.ref w_LEFT_OUT), .unset, .unset] [(.int (1 : Int32)), (.int (((p1 &&& (2147483647 : Int32)) % (24 : Int32)) + (1 : Int32))), (.ref b32), (.ref b32)])) rfl (by rw [hml]; rfl) (Steps.refl _) (a := b32) (argsL := [(.int (((p1 &&& (2147483647 : Int32)) % (24 : Int32)) + (1 : Int32))), (.int (1 : Int32))]) (rest := [(.ref b32)]) (lenOf pd_2 rfl) rfl (by show 2 * 0 + _ ≤ _; exact Nat.le_of_eq rfl) (hb hby at_59) (fun _ _ => ⟨rfl, e32, (by decide : 1 + 0 ≤ _), (by decide : 2 + 0 ≤ _)⟩)
      dsimp only [Pt.U, Pt.locs, Pt.cells, Pt.slots] at X35 l35 y35 z35 st35 hQ35
      subst l35 y35 z35
      obtain ⟨rfl, Nq35, q35_0, q35_1, q35_2, q35_3⟩ := hQ35
      have N35 := Fr.app N0 Nq35
      refine Go.tr st35 ?_
      have K35 : Keep h0 T35.heap [] := (K32).trans q35_0 (allS (Or.inr sz_b32) all0)
      have Z35 : n0 ≤ T35.heap.size := Nat.le_trans Z32 q35_0.1
      show Go p e below _ (T35.setTop (mkF m 62 #[.val (.int p0), .val (.int p1), .val (.int p2), .val (.int (1 : Int32)), .val (.int (1 : Int32)), .val (.int (((p1 &&& (2147483647 : Int32)) % (24 : Int32)) + (1 : Int32))), .val (.ref w_LEFT_OUT), .unset, .unset] [(.ref b32)]))
      refine Go.of (fun _ k => XS.astore X35.here hx rfl (hb hby at_62) rfl rfl (l' := #[.val (.int p0), .val (.int p1), .val (.int p2), .val (.int (1 : Int32)), .val (.int (1 : Int32)), .val (.int (((p1 &&& (2147483647 : Int32)) % (24 : Int32)) + (1 : Int32))), .val (.ref w_LEFT_OUT), .val (.ref b32), .unset]) rfl k) ?_
      show Go p e below _ (T35.setTop (mkF m 64 #[.val (.int p0), .val (.int p1), .val (.int p2), .val (.int (1 : Int32)), .val (.int (1 : Int32)), .val (.int (((p1 &&& (2147483647 : Int32)) % (24 : Int32)) + (1 : Int32))), .val (.ref w_LEFT_OUT), .val (.ref b32), .unset] []))
      refine Go.of (fun _ k => XS.iloadN X35.here hx rfl (hb hby at_64) rfl  k) ?_
      show Go p e below _ (T35.setTop (mkF m 65 #[.val (.int p0), .val (.int p1), .val (.int p2), .val (.int (1 : Int32)), .val (.int (1 : Int32)), .val (.int (((p1 &&& (2147483647 : Int32)) % (24 : Int32)) + (1 : Int32))), .val (.ref w_LEFT_OUT), .val (.ref b32), .unset] [(.int (1 : Int32))]))
      refine Go.of (fun _ k => XS.ifNo X35.here hx rfl (hb hby at_65) rfl ((if0 _ _).trans (feq (by decide : ¬ ((1 : Int32) = (0 : Int32)))).1) k) ?_
      show Go p e below _ (T35.setTop (mkF m 68 #[.val (.int p0), .val (.int p1), .val (.int p2), .val (.int (1 : Int32)), .val (.int (1 : Int32)), .val (.int (((p1 &&& (2147483647 : Int32)) % (24 : Int32)) + (1 : Int32))), .val (.ref w_LEFT_OUT), .val (.ref b32), .unset] []))
      refine Go.of (fun _ k => XS.iload X35.here hx rfl (hb hby at_68) rfl  k) ?_
      show Go p e below _ (T35.setTop (mkF m 70 #[.val (.int p0), .val (.int p1), .val (.int p2), .val (.int (1 : Int32)), .val (.int (1 : Int32)), .val (.int (((p1 &&& (2147483647 : Int32)) % (24 : Int32)) + (1 : Int32))), .val (.ref w_LEFT_OUT), .val (.ref b32), .unset] [(.int (1 : Int32))]))
      refine Go.of (fun _ k => XS.ifNo X35.here hx rfl (hb hby at_70) rfl ((if0 _ _).trans (feq (by decide : ¬ ((1 : Int32) = (0 : Int32)))).1) k) ?_
      show Go p e below _ (T35.setTop (mkF m 73 #[.val (.int p0), .val (.int p1), .val (.int p2), .val (.int (1 : Int32)), .val (.int (1 : Int32)), .val (.int (((p1 &&& (2147483647 : Int32)) % (24 : Int32)) + (1 : Int32))), .val (.ref w_LEFT_OUT), .val (.ref b32), .unset] []))
      refine Go.of (fun _ k => XS.iconst X35.here hx rfl (hb hby at_73) k) ?_
      show Go p e below _ (T35.setTop (mkF m 74 #[.val (.int p0), .val (.int p1), .val (.int p2), .val (.int (1 : Int32)), .val (.int (1 : Int32)), .val (.int (((p1 &&& (2147483647 : Int32)) % (24 : Int32)) + (1 : Int32))), .val (.ref w_LEFT_OUT), .val (.ref b32), .unset] [(.int (0 : Int32))]))
      refine Go.of (fun _ k => XS.istore X35.here hx rfl (hb hby at_74) rfl (l' := #[.val (.int p0), .val (.int p1), .val (.int p2), .val (.int (1 : Int32)), .val (.int (1 : Int32)), .val (.int (((p1 &&& (2147483647 : Int32)) % (24 : Int32)) + (1 : Int32))), .val (.ref w_LEFT_OUT), .val (.ref b32), .val (.int (0 : Int32))]) rfl k) ?_
      show Go p e below _ (T35.setTop (mkF m 76 #[.val (.int p0), .val (.int p1), .val (.int p2), .val (.int (1 : Int32)), .val (.int (1 : Int32)), .val (.int (((p1 &&& (2147483647 : Int32)) % (24 : Int32)) + (1 : Int32))), .val (.ref w_LEFT_OUT), .val (.ref b32), .val (.int (0 : Int32))] []))
      refine Go.of (fun _ k => XS.goto X35.here hx rfl (pc0 := 76) (pc' := 88) rfl (hb hby at_76) (by decide) (by decide) k) ?_
      show Go p e below _ (T35.setTop (mkF m 88 #[.val (.int p0), .val (.int p1), .val (.int p2), .val (.int (1 : Int32)), .val (.int (1 : Int32)), .val (.int (((p1 &&& (2147483647 : Int32)) % (24 : Int32)) + (1 : Int32))), .val (.ref w_LEFT_OUT), .val (.ref b32), .val (.int (0 : Int32))] []))
      refine Go.of (fun _ k => XS.aload X35.here hx rfl (hb hby at_88) rfl rfl k) ?_
      show Go p e below _ (T35.setTop (mkF m 90 #[.val (.int p0), .val (.int p1), .val (.int p2), .val (.int (1 : Int32)), .val (.int (1 : Int32)), .val (.int (((p1 &&& (2147483647 : Int32)) % (24 : Int32)) + (1 : Int32))), .val (.ref w_LEFT_OUT), .val (.ref b32), .val (.int (0 : Int32))] [(.ref w_LEFT_OUT)]))
      refine Go.of (fun _ k => XS.aload X35.here hx rfl (hb hby at_90) rfl rfl k) ?_
      show Go p e below _ (T35.setTop (mkF m 92 #[.val (.int p0), .val (.int p1), .val (.int p2), .val (.int (1 : Int32)), .val (.int (1 : Int32)), .val (.int (((p1 &&& (2147483647 : Int32)) % (24 : Int32)) + (1 : Int32))), .val (.ref w_LEFT_OUT), .val (.ref b32), .val (.int (0 : Int32))] [(.ref b32), (.ref w_LEFT_OUT)]))
      have c37 : Sta Z T35.heap "org/hourbook/contract/RepeatedHour" "COUNTED" "Lorg/hourbook/contract/RepeatedHour;" (.ref w_COUNTED) := (own_Sta_keep S_COUNTED K35 own_p0)
      have c38 : Exa Z T35.heap w_LEFT_OUT "org/hourbook/contract/RepeatedHour" := (E_w_LEFT_OUT.keep K35)
      obtain ⟨cq36, kq36, q36a, q36b, q36c⟩ := isOf hZ rfl c38
      obtain ⟨_, _, ⟨T36, L36, k36, n36⟩, -, X36, ⟨Lc36, hQ36, l36, y36, z36⟩, st36⟩ := X35.virtualBack hx (y := (⟨"org/hourbook/contract/RepeatedHour", "admits", "(Lorg/hourbook/calendar/HourEnding;)Z"⟩ : MethodName)) (z := (⟨"org/hourbook/contract/RepeatedHour", "admits", "(Lorg/hourbook/calendar/HourEnding;)Z"⟩ : MethodName)) hown (mvT hZ (hw _ (List.mem_of_getElem? (i := 22) rfl))) (mvT hZ (hw _ (List.mem_of_getElem? (i := 23) rfl))) (notFace_of_selects (args := #[]) (mvT hZ (hw _ (List.mem_of_getElem? (i := 25) rfl)))) (mvT hZ (hw _ (List.mem_of_getElem? (i := 25) rfl))) (mvT hZ (hw _ (List.mem_of_getElem? (i := 24) rfl))) (by decide) (backOf (W := 0) (rm4_1 l Z a0 hw [] w_LEFT_OUT b32 w_COUNTED (nar .boolean (1 : Int32)) T35.heap n0 Z35 c37 (Ne.symm ne_w_COUNTED_w_LEFT_OUT) q35_2 q35_1 (by decide : ¬ ((nar .boolean (nar .boolean (1 : Int32))) = (0 : Int32)))) hZ (hw _ (List.mem_of_getElem? (i := 26) rfl)) (hw _ (List.mem_of_getElem? (i := 2) rfl)) (by decide) (by decide)) q36a q36c (g := (mkF m 92 #[.val (.int p0), .val (.int p1), .val (.int p2), .val (.int (1 : Int32)), .val (.int (1 : Int32)), .val (.int (((p1 &&& (2147483647 : Int32)) % (24 : Int32)) + (1 : Int32))), .val (.ref w_LEFT_OUT), .val (.ref b32), .val (.int (0 : Int32))] [(.ref b32), (.ref w_LEFT_OUT)])) rfl (by rw [hml]; rfl) (Steps.refl _) (argsL := [(.ref b32)]) (rest := []) (lenOf pd_3 rfl) rfl (by show 2 * 0 + _ ≤ _; exact Nat.le_of_eq rfl) (hb hby at_92) (fun _ _ => ⟨rfl, rfl, (by decide : 1 + 0 ≤ _), (by decide : 2 + 0 ≤ _)⟩)
      dsimp only [Pt.U, Pt.locs, Pt.cells, Pt.slots] at X36 l36 y36 z36 st36 hQ36
      subst l36 y36 z36
      obtain ⟨rfl, Nq36, q36_0⟩ := hQ36
      have N36 := Fr.app N35 Nq36
      refine Go.tr st36 ?_
      show Go p e below _ (T36.setTop (mkF m 95 #[.val (.int p0), .val (.int p1), .val (.int p2), .val (.int (1 : Int32)), .val (.int (1 : Int32)), .val (.int (((p1 &&& (2147483647 : Int32)) % (24 : Int32)) + (1 : Int32))), .val (.ref w_LEFT_OUT), .val (.ref b32), .val (.int (0 : Int32))] [(.int (0 : Int32))]))
      refine Go.of (fun _ k => XS.iload X36.here hx rfl (hb hby at_95) rfl  k) ?_
      show Go p e below _ (T36.setTop (mkF m 97 #[.val (.int p0), .val (.int p1), .val (.int p2), .val (.int (1 : Int32)), .val (.int (1 : Int32)), .val (.int (((p1 &&& (2147483647 : Int32)) % (24 : Int32)) + (1 : Int32))), .val (.ref w_LEFT_OUT), .val (.ref b32), .val (.int (0 : Int32))] [(.int (0 : Int32)), (.int (0 : Int32))]))
      refine Go.of (fun _ k => XS.icmpNo X36.here hx rfl (hb hby at_97) rfl (teq (by decide : (0 : Int32) = (0 : Int32))).2 k) ?_
      show Go p e below _ (T36.setTop (mkF m 100 #[.val (.int p0), .val (.int p1), .val (.int p2), .val (.int (1 : Int32)), .val (.int (1 : Int32)), .val (.int (((p1 &&& (2147483647 : Int32)) % (24 : Int32)) + (1 : Int32))), .val (.ref w_LEFT_OUT), .val (.ref b32), .val (.int (0 : Int32))] []))
      refine Go.of (fun _ k => XS.iconst X36.here hx rfl (hb hby at_100) k) ?_
      show Go p e below _ (T36.setTop (mkF m 101 #[.val (.int p0), .val (.int p1), .val (.int p2), .val (.int (1 : Int32)), .val (.int (1 : Int32)), .val (.int (((p1 &&& (2147483647 : Int32)) % (24 : Int32)) + (1 : Int32))), .val (.ref w_LEFT_OUT), .val (.ref b32), .val (.int (0 : Int32))] [(.int (1 : Int32))]))
      refine Go.of (fun _ k => XS.goto X36.here hx rfl (pc0 := 101) (pc' := 105) rfl (hb hby at_101) (by decide) (by decide) k) ?_
      show Go p e below _ (T36.setTop (mkF m 105 #[.val (.int p0), .val (.int p1), .val (.int p2), .val (.int (1 : Int32)), .val (.int (1 : Int32)), .val (.int (((p1 &&& (2147483647 : Int32)) % (24 : Int32)) + (1 : Int32))), .val (.ref w_LEFT_OUT), .val (.ref b32), .val (.int (0 : Int32))] [(.int (1 : Int32))]))
      obtain ⟨fs, hr, hrun, hended, hW, hsame⟩ := X36.leave (v := some (.int (1 : Int32))) (fun h => by rw [Bd.returns] at h; cases h)
      refine Go.mk _ _ ?_ hrun hended ⟨_, _, rfl, ?_, ⟨_, rfl⟩, hW, hsame.mono (by decide) (by decide)⟩
      · exact retN X36 hx (t := .boolean) Bd.returns (by simp) (hb hby at_105) hr
      · show Q0 Z p0 p1 p2 w_COUNTED w_LEFT_OUT h0 n0 _ T36.heap _
        rw [q36_0]
        exact ⟨rfl, N36⟩
set_option maxRecDepth 65536 in
set_option maxHeartbeats 40000000 in
theorem comes_1 {Post : Tables → Env → Array Value → State → Outcome → State → Prop} (hpost : ∀ tb e args s v u, (limb_1_1.after args s (.returned v) u = true ∧ limb_1_2.after args s (.returned v) u = true ∧ True) → FrameEnd s (.returned v) u (Jvm.fieldLocs frame_1_writes args s ++ Jvm.arrayLocs frame_1_arrays args s ++ Jvm.staticLocs frame_1_statics s) 16 128 → Post tb e args s (.returned v) u) :
    ArmFor flags0 classFile x code maxLocals ret World_1 tables_1 room_1 Calls_1 rest_1 Pre_1 Post := by
  intro l hfl _ _ p e ha hc hk s m args below hf hA hF happ hP
  obtain ⟨hcalls, hrest, hpre⟩ := hP
  obtain ⟨-, -, -, hnamed, -, -, -, hat⟩ := (Spec.applies_iff hf).mp happ
  obtain ⟨hg, hn⟩ := and_e (Cond.before_iff.mp (show (Jvm.Cond.and given_1 narrow_1).before args s = true from hpre))
  obtain ⟨g1, g2⟩ := and_e hg
  obtain ⟨g3, g4⟩ := and_e g2
  obtain ⟨g5, g6⟩ := and_e g4
  obtain ⟨w0, w1, w2, rfl⟩ : ∃ w0 w1 w2 : Value, args = #[w0, w1, w2] := by
    have hs : args.size = 3 := by simpa [Cond.value, given_1] using g1
    obtain ⟨L⟩ := args
    match L, hs with
    | [w0, w1, w2], _ => exact ⟨w0, w1, w2, rfl⟩
  have hw := fun d (hd : d ∈ tables_1) => atoms_spec (ws := Jvm.Cond.code x code maxLocals ret :: tables_1) hat d (List.mem_cons_of_mem _ hd)
  have hfit : Fit s := fun {y c} hc i hi => by
    obtain ⟨ha, rfl⟩ := Array.getElem?_eq_some_iff.mp hc
    have q := List.all_eq_true.mp ((Array.all_eq_true_iff_forall_mem.mp hF) _ (Array.getElem_mem ha)) i (List.mem_range.mpr hi)
    simpa [Array.getElem?_eq_getElem hi] using q
  obtain ⟨i0, ei0⟩ := is_v g3
  obtain rfl : w0 = (.int i0) := Option.some.inj ei0
  obtain ⟨i1, ei1⟩ := is_v g5
  obtain rfl : w1 = (.int i1) := Option.some.inj ei1
  obtain ⟨i2, ei2⟩ := is_v g6
  obtain rfl : w2 = (.int i2) := Option.some.inj ei2
  obtain ⟨g7, g8⟩ := and_e hn
  obtain ⟨g9, g10⟩ := and_e g8
  obtain ⟨g11, g12⟩ := and_e g10
  obtain ⟨w_COUNTED, ev_COUNTED, E_w_COUNTED⟩ := own_sta g7
  have S_COUNTED := Sta.start ev_COUNTED (Or.inr ⟨(hw _ (List.mem_of_getElem? (i := 2) rfl)), (hw _ (List.mem_of_getElem? (i := 3) rfl))⟩)
  obtain ⟨w_LEFT_OUT, ev_LEFT_OUT, E_w_LEFT_OUT⟩ := own_sta g9
  have S_LEFT_OUT := Sta.start ev_LEFT_OUT (Or.inr ⟨(hw _ (List.mem_of_getElem? (i := 2) rfl)), (hw _ (List.mem_of_getElem? (i := 29) rfl))⟩)
  have F_w_LEFT_OUT_ordinal := own_fldI ev_LEFT_OUT g11
  have F_w_COUNTED_ordinal := own_fldI ev_COUNTED g12
  obtain ⟨n, o, h1, h2, h3, _, L, rfl, ⟨rfl, N⟩, hq⟩ := rm0 l s _ hw tables_1 i0 i1 i2 w_COUNTED w_LEFT_OUT s.heap s.heap.size (Nat.le_refl _) S_COUNTED E_w_COUNTED S_LEFT_OUT (Fld.ne F_w_COUNTED_ordinal F_w_LEFT_OUT_ordinal (by simp)) E_w_LEFT_OUT p e ha hc hk s m _ below hf ((Spec.applies_iff_loose hf).mp happ).1 ⟨rfl, State.Warmed39.refl s, rfl⟩ trivial
  refine ⟨n, _, h1, h2, h3, hpost _ _ _ _ _ _ ⟨Cond.after_iff.mpr rfl, Cond.after_iff.mpr (eq_i res_at (Term.int_eval (1)) rfl), trivial⟩ ⟨hq.1, hq.2.1, (hq.2.2.sift fun y hy => Or.inr (N y hy)).mono (by decide) (by decide)⟩⟩
theorem main_1_1 : Claimed_1_1 := comes_1 fun _ _ _ _ _ _ h hF => ⟨h.1, hF⟩
theorem main_1_2 : Claimed_1_2 := comes_1 fun _ _ _ _ _ _ h hF => ⟨h.2.1, hF⟩
end Jvm.Pilot.@@N@@
namespace Jvm.Pilot.@@N@@
open Jvm Jvm.ClassFile Sem Op Lib Jvm.Free Jvm.Stand Jvm.Pilot.@@N@@.Jvm.D
/-! MADE BY PROGRAM (witnessworld.py) out of the Statement's table words and the real class files: 14 classes; the members and pool entries that the words name. The judged class is class 1, her method 1. -/
namespace start1
open Jvm.ClassFile
def u (s : String) : CpInfo := .utf8 (stringToUtf16 s)
/-- a pool by its gaps: so many unusable entries, then the entry; so many at the end -/
def gap : Nat → List CpInfo → List CpInfo
  | 0, r => r
  | n + 1, r => .unusable :: gap n r
def poolList (es : List (Nat × CpInfo)) (last : Nat) : List CpInfo := es.foldr (fun e r => gap e.1 (e.2 :: r)) (gap last [])
def pool (es : List (Nat × CpInfo)) (last : Nat) : Array CpInfo := ⟨poolList es last⟩
def fileOf (pool : Array CpInfo) (this : Nat) (attrs : Array Attribute := #[]) (ms : Array MethodInfo := #[]) (fl : Nat := 33) (sup : Nat := 0) (ifs : Array Nat := #[]) (fds : Array FieldInfo := #[]) : ClassFile where
  minorVersion := 0
  majorVersion := 65
  constantPool := pool
  accessFlags := fl
  thisClass := this
  superClass := sup
  interfaces := ifs
  fields := fds
  methods := ms
  attributes := attrs
def plain (name : String) (sup : Option ClassId) : Class where
  name := name
  kind := .ordinary
  loader := none
  accessFlags := 33
  super := sup
  interfaces := #[]
  cf := none
  fields := #[]
  methods := #[]
  instanceTypes := #[]
  staticTypes := #[]
  resolved := #[]
  callSites := []
  init := .initialized
  statics := none
  mirror := none

def pool0 : Array CpInfo := pool [(5, u "<init>"), (0, u "()V"), (1, .class_ 10), (1, u "java/lang/Object")] 113

def k0c0 : Code := { maxStack := 0, maxLocals := 1, code := object_method_1_code, exceptionTable := #[], attributes := #[] }
def k0m0 : Method := { name := "<init>", desc := "()V", sig := { parameters := [], returnType := none }, accessFlags := 1, code := some k0c0 }
/-- java/lang/Object -/
def k0 : Class := { plain "java/lang/Object" none with
  accessFlags := 33
  interfaces := #[]
  cf := some (fileOf pool0 8 #[] #[{ accessFlags := 1, nameIndex := 5, descriptorIndex := 6, attributes := #[] }] 33 0 #[] #[])
  fields := #[]
  methods := #[k0m0]
  instanceTypes := #[]
  staticTypes := #[]
  resolved := Array.replicate 124 none
  statics := none }

def pool1 : Array CpInfo := pool [(2, .class_ 4), (1, u "java/lang/Object"), (0, u "<init>"), (0, u "()V"), (0, .integer 2147483647), (0, .fieldref 9 10), (0, .class_ 11), (0, .nameAndType 12 13), (0, u "org/hourbook/contract/RepeatedHour"), (0, u "LEFT_OUT"), (0, u "Lorg/hourbook/contract/RepeatedHour;"), (0, .fieldref 9 15), (0, .nameAndType 16 13), (0, u "COUNTED"), (0, .class_ 18), (0, u "org/hourbook/calendar/HourEnding"), (0, .methodref 17 20), (0, .nameAndType 5 21), (0, u "(IZ)V"), (0, .methodref 9 23), (0, .nameAndType 24 25), (0, u "admits"), (0, u "(Lorg/hourbook/calendar/HourEnding;)Z"), (0, .class_ 27), (0, u "org/hourbook/contract/RepeatedHourAdmitsPinLaw"), (2, u "law"), (0, u "(III)Z")] 3

def k1m0 : Method := { name := "<init>", desc := "()V", sig := { parameters := [], returnType := none }, accessFlags := 1, code := none }
def k1c1 : Code := { maxStack := 4, maxLocals := 9, code := code, exceptionTable := #[], attributes := #[] }
def k1m1 : Method := { name := "law", desc := "(III)Z", sig := { parameters := [.int, .int, .int], returnType := some .boolean }, accessFlags := 9, code := some k1c1 }
/-- org/hourbook/contract/RepeatedHourAdmitsPinLaw -/
def k1 : Class := { plain "org/hourbook/contract/RepeatedHourAdmitsPinLaw" (some 0) with
  accessFlags := 49
  interfaces := #[]
  cf := some (fileOf pool1 26 #[] #[{ accessFlags := 1, nameIndex := 5, descriptorIndex := 6, attributes := #[] }, { accessFlags := 9, nameIndex := 30, descriptorIndex := 31, attributes := #[] }] 49 2 #[] #[])
  fields := #[]
  methods := #[k1m0, k1m1]
  instanceTypes := #[]
  staticTypes := #[]
  resolved := Array.replicate 35 none
  statics := none }

def pool2 : Array CpInfo := pool [(1, .class_ 2), (0, u "java/lang/constant/Constable"), (0, .class_ 4), (0, u "java/lang/Object")] 6

/-- java/lang/constant/Constable -/
def k2 : Class := { plain "java/lang/constant/Constable" (some 0) with
  accessFlags := 1537
  interfaces := #[]
  cf := some (fileOf pool2 1 #[] #[] 1537 3 #[] #[])
  fields := #[]
  methods := #[]
  instanceTypes := #[]
  staticTypes := #[]
  resolved := Array.replicate 11 none
  statics := none }

def pool3 : Array CpInfo := pool [(1, .class_ 2), (0, u "java/lang/Comparable"), (0, .class_ 4), (0, u "java/lang/Object")] 7

/-- java/lang/Comparable -/
def k3 : Class := { plain "java/lang/Comparable" (some 0) with
  accessFlags := 1537
  interfaces := #[]
  cf := some (fileOf pool3 1 #[] #[] 1537 3 #[] #[])
  fields := #[]
  methods := #[]
  instanceTypes := #[]
  staticTypes := #[]
  resolved := Array.replicate 12 none
  statics := none }

def pool4 : Array CpInfo := pool [(1, .class_ 2), (0, u "java/io/Serializable"), (0, .class_ 4), (0, u "java/lang/Object")] 2

/-- java/io/Serializable -/
def k4 : Class := { plain "java/io/Serializable" (some 0) with
  accessFlags := 1537
  interfaces := #[]
  cf := some (fileOf pool4 1 #[] #[] 1537 3 #[] #[])
  fields := #[]
  methods := #[]
  instanceTypes := #[]
  staticTypes := #[]
  resolved := Array.replicate 7 none
  statics := none }

def pool5 : Array CpInfo := pool [(2, .class_ 4), (1, u "java/lang/Enum"), (0, u "name"), (0, u "Ljava/lang/String;"), (2, u "ordinal"), (0, u "I"), (1, .class_ 14), (1, u "java/lang/Object"), (4, u "hash"), (86, .class_ 108), (1, u "java/lang/Enum$EnumDesc"), (2, .class_ 112), (0, u "java/lang/constant/Constable"), (0, .class_ 114), (0, u "java/lang/Comparable"), (0, .class_ 116), (0, u "java/io/Serializable")] 87

/-- java/lang/Enum -/
def k5 : Class := { plain "java/lang/Enum" (some 0) with
  accessFlags := 1057
  interfaces := #[2, 3, 4]
  cf := some (fileOf pool5 2 #[.nestMembers #[106]] #[] 1057 12 #[111, 113, 115] #[{ accessFlags := 18, nameIndex := 5, descriptorIndex := 6, attributes := #[] }, { accessFlags := 18, nameIndex := 9, descriptorIndex := 10, attributes := #[] }, { accessFlags := 2, nameIndex := 19, descriptorIndex := 10, attributes := #[] }])
  fields := #[{ name := "name", type := (.object "java/lang/String"), accessFlags := 18, slot := 0, constantValue := 0 }, { name := "ordinal", type := .int, accessFlags := 18, slot := 1, constantValue := 0 }, { name := "hash", type := .int, accessFlags := 2, slot := 2, constantValue := 0 }]
  methods := #[]
  instanceTypes := #[(.object "java/lang/String"), .int, .int]
  staticTypes := #[]
  resolved := Array.replicate 204 none
  statics := none }

def pool6 : Array CpInfo := pool [(1, .class_ 2), (0, u "org/hourbook/contract/RepeatedHour"), (0, .fieldref 1 4), (0, .nameAndType 5 6), (0, u "COUNTED"), (0, u "Lorg/hourbook/contract/RepeatedHour;"), (2, u "LEFT_OUT"), (2, u "$VALUES"), (0, u "[Lorg/hourbook/contract/RepeatedHour;"), (6, .class_ 22), (1, u "java/lang/Enum"), (8, u "label"), (0, u "Ljava/lang/String;"), (0, .methodref 34 35), (0, .class_ 36), (0, .nameAndType 37 38), (0, u "org/hourbook/calendar/HourEnding"), (0, u "repeated"), (0, u "()Z"), (21, u "admits"), (0, u "(Lorg/hourbook/calendar/HourEnding;)Z")] 6

def k6c0 : Code := { maxStack := 2, maxLocals := 2, code := prog_27_method_5_code, exceptionTable := #[], attributes := #[] }
def k6m0 : Method := { name := "admits", desc := "(Lorg/hourbook/calendar/HourEnding;)Z", sig := { parameters := [(.object "org/hourbook/calendar/HourEnding")], returnType := some .boolean }, accessFlags := 1, code := some k6c0 }
/-- org/hourbook/contract/RepeatedHour -/
def k6 : Class := { plain "org/hourbook/contract/RepeatedHour" (some 5) with
  accessFlags := 16433
  interfaces := #[]
  cf := some (fileOf pool6 1 #[] #[{ accessFlags := 1, nameIndex := 60, descriptorIndex := 61, attributes := #[] }] 16433 20 #[] #[{ accessFlags := 16409, nameIndex := 5, descriptorIndex := 6, attributes := #[] }, { accessFlags := 16409, nameIndex := 9, descriptorIndex := 6, attributes := #[] }, { accessFlags := 18, nameIndex := 31, descriptorIndex := 32, attributes := #[] }, { accessFlags := 4122, nameIndex := 12, descriptorIndex := 13, attributes := #[] }])
  fields := #[{ name := "COUNTED", type := (.object "org/hourbook/contract/RepeatedHour"), accessFlags := 16409, slot := 0, constantValue := 0 }, { name := "LEFT_OUT", type := (.object "org/hourbook/contract/RepeatedHour"), accessFlags := 16409, slot := 1, constantValue := 0 }, { name := "label", type := (.object "java/lang/String"), accessFlags := 18, slot := 3, constantValue := 0 }, { name := "$VALUES", type := (.array (.object "org/hourbook/contract/RepeatedHour")), accessFlags := 4122, slot := 2, constantValue := 0 }]
  methods := #[k6m0]
  instanceTypes := #[(.object "java/lang/String"), .int, .int, (.object "java/lang/String")]
  staticTypes := #[(.object "org/hourbook/contract/RepeatedHour"), (.object "org/hourbook/contract/RepeatedHour"), (.array (.object "org/hourbook/contract/RepeatedHour"))]
  resolved := Array.replicate 68 none
  statics := some 0 }

def pool7 : Array CpInfo := pool [(1, .methodref 2 3), (0, .class_ 4), (0, .nameAndType 5 6), (0, u "java/lang/Object"), (0, u "<init>"), (0, u "()V"), (0, .class_ 8), (0, u "java/lang/Record")] 13

def k7c0 : Code := { maxStack := 1, maxLocals := 1, code := jdk_30_method_1_code, exceptionTable := #[], attributes := #[] }
def k7m0 : Method := { name := "<init>", desc := "()V", sig := { parameters := [], returnType := none }, accessFlags := 4, code := some k7c0 }
/-- java/lang/Record -/
def k7 : Class := { plain "java/lang/Record" (some 0) with
  accessFlags := 1057
  interfaces := #[]
  cf := some (fileOf pool7 7 #[] #[{ accessFlags := 4, nameIndex := 5, descriptorIndex := 6, attributes := #[] }] 1057 2 #[] #[])
  fields := #[]
  methods := #[k7m0]
  instanceTypes := #[]
  staticTypes := #[]
  resolved := Array.replicate 22 none
  statics := none }

def pool8 : Array CpInfo := pool [(1, .methodref 2 3), (0, .class_ 4), (0, .nameAndType 5 6), (0, u "java/lang/Record"), (0, u "<init>"), (0, u "()V"), (0, .fieldref 8 9), (0, .class_ 10), (0, .nameAndType 11 12), (0, u "org/hourbook/calendar/HourEnding"), (0, u "value"), (0, u "I"), (0, .fieldref 8 14), (0, .nameAndType 15 16), (0, u "repeated"), (0, u "Z"), (102, u "PLAIN_DAY"), (0, u "Ljava/util/List;"), (26, u "(IZ)V"), (42, u "()Z")] 34

def k8c0 : Code := { maxStack := 2, maxLocals := 3, code := prog_6_method_1_code, exceptionTable := #[], attributes := #[] }
def k8m0 : Method := { name := "<init>", desc := "(IZ)V", sig := { parameters := [.int, .boolean], returnType := none }, accessFlags := 1, code := some k8c0 }
def k8c1 : Code := { maxStack := 1, maxLocals := 1, code := prog_6_method_11_code, exceptionTable := #[], attributes := #[] }
def k8m1 : Method := { name := "repeated", desc := "()Z", sig := { parameters := [], returnType := some .boolean }, accessFlags := 1, code := some k8c1 }
/-- org/hourbook/calendar/HourEnding -/
def k8 : Class := { plain "org/hourbook/calendar/HourEnding" (some 7) with
  accessFlags := 49
  interfaces := #[]
  cf := some (fileOf pool8 8 #[] #[{ accessFlags := 1, nameIndex := 5, descriptorIndex := 147, attributes := #[] }, { accessFlags := 1, nameIndex := 15, descriptorIndex := 190, attributes := #[] }] 49 2 #[] #[{ accessFlags := 18, nameIndex := 11, descriptorIndex := 12, attributes := #[] }, { accessFlags := 18, nameIndex := 15, descriptorIndex := 16, attributes := #[] }, { accessFlags := 26, nameIndex := 119, descriptorIndex := 120, attributes := #[] }])
  fields := #[{ name := "value", type := .int, accessFlags := 18, slot := 0, constantValue := 0 }, { name := "repeated", type := .boolean, accessFlags := 18, slot := 1, constantValue := 0 }, { name := "PLAIN_DAY", type := (.object "java/util/List"), accessFlags := 26, slot := 0, constantValue := 0 }]
  methods := #[k8m0, k8m1]
  instanceTypes := #[.int, .boolean]
  staticTypes := #[(.object "java/util/List")]
  resolved := Array.replicate 225 none
  statics := none }

def pool9 : Array CpInfo := pool [(1, u "java/lang/Cloneable"), (0, .class_ 1), (0, u "java/lang/Object"), (0, .class_ 3)] 3

/-- java/lang/Cloneable -/
def k9 : Class := { plain "java/lang/Cloneable" (some 0) with
  accessFlags := 1537
  interfaces := #[]
  cf := some (fileOf pool9 2 #[] #[] 1537 4 #[] #[])
  fields := #[]
  methods := #[]
  instanceTypes := #[]
  staticTypes := #[]
  resolved := Array.replicate 8 none
  statics := none }

/-- the primitive byte -/
def k10 : Class := { plain "byte" none with kind := .primitive 'B', accessFlags := 0x411 }
/-- [B -/
def k11 : Class := { plain "[B" (some 0) with kind := .array 10 .byte, interfaces := #[9, 4], accessFlags := 1041 }

/-- the primitive int -/
def k12 : Class := { plain "int" none with kind := .primitive 'I', accessFlags := 0x411 }
/-- [I -/
def k13 : Class := { plain "[I" (some 0) with kind := .array 12 .int, interfaces := #[9, 4], accessFlags := 1041 }

def heap : Heap := #[{ cls := 6, slots := #[.ref 1, .ref 2, .null], vm := .statics 6 },
  { cls := 6, slots := #[.null, .int 0, .int 0, .null], vm := .none },
  { cls := 6, slots := #[.null, .int 1, .int 0, .null], vm := .none }]
def classes : Array Class := #[k0, k1, k2, k3, k4, k5, k6, k7, k8, k9, k10, k11, k12, k13]
def interned : List (Array UInt16 × Addr) := []
def slotsUsed : Nat := 11
def theMethod : MethodId := ⟨1, 1⟩
def args0 : Array Value := #[.int 5, .int 7, .int 2]
def aboutOver (below : List Frame) : State where
  vm := { classes := classes, interned := interned.toArray }
  heap := heap
  slotsUsed := slotsUsed
  threads := #[{ frames := .invoking theMethod args0 :: below }]
def below0 : List Frame := [.native { method := ⟨0, 0⟩, args := #[] }]
def about1 : State := aboutOver below0
def p0 : Program := .bare "" "" ""
def e0 : Env := launch0.env 0 0 0
theorem w_frames : about1.frames = Frame.invoking theMethod args0 :: below0 := rfl
set_option maxRecDepth 65536 in
theorem w_args : argsFit about1.vm theMethod args0 = true := by decide +kernel
set_option maxRecDepth 65536 in
theorem w_heap : heapFits about1 = true := by decide +kernel
set_option maxRecDepth 65536 in
theorem w_runnable : about1.curStatus? = some .runnable := by decide +kernel
set_option maxRecDepth 65536 in
theorem w_alone : about1.alone = true := by decide +kernel
set_option maxRecDepth 65536 in
theorem w_named : about1.methodNamed? x = some theMethod := by decide +kernel
set_option maxRecDepth 65536 in
theorem w_hears : about1.hears theMethod below0 = true := by decide +kernel
set_option maxRecDepth 65536 in
theorem w_ripe : about1.ripe theMethod args0 below0 = true := by decide +kernel
theorem w_running : about1.status = .running := rfl
set_option maxRecDepth 65536 in
theorem w_room : about1.hasRoom e0.platform room_1 = true :=
  launch0.hasRoom_least _ room_1 (by decide +kernel) (by decide +kernel) (by decide +kernel) (by decide +kernel) (by decide +kernel) (by decide +kernel)
theorem allAtoms_all (ts : List Jvm.Cond) (a : Array Jvm.Value) (st : Jvm.State) : (allAtoms ts).before a st = ts.all (fun c => c.before a st) := by
  induction ts with
  | nil => rfl
  | cons c t ih =>
    show (Jvm.Cond.and c (allAtoms t)).before a st = _
    rw [Jvm.Cond.before_and, ih, List.all_cons]
def words1 : List Jvm.Cond := Jvm.Cond.code x code maxLocals ret :: tables_1
/-- a 'code' word, met by the world's own term for the bytes: nothing is compared byte by byte -/
theorem code_word {y : MethodName} {bytes : ByteArray} {mx : Nat} {rt : Option FieldType} {a : Array Value} {s : State} {m : MethodId} {meth : Method} {c : Code} (h1 : s.methodNamed? y = some m) (h2 : s.vm.method? m = some meth) (h3 : meth.code = some c) (h4 : c.code = bytes)
    (h5 : (c.maxLocals == mx && c.exceptionTable.isEmpty && decide (c.maxStack ≤ mostOperands) && decide (meth.sig.returnType = rt) && !meth.locks && decide (parseMethodDescriptor y.desc = some meth.sig)) = true) : (Jvm.Cond.code y bytes mx rt).before a s = true := by
  simp only [Bool.and_eq_true, beq_iff_eq, Bool.not_eq_true', decide_eq_true_eq] at h5
  obtain ⟨⟨⟨⟨⟨g1, g2⟩, g3⟩, g4⟩, g5⟩, g6⟩ := h5
  simp [Cond.before, Cond.holds, Cond.value, h1, h2, h3, h4, g1, g2, g3, g4, g5, g6]
def isCode : Jvm.Cond → Bool
  | .code _ _ _ _ => true
  | _ => false
theorem all_split {L : List Jvm.Cond} {P : Jvm.Cond → Bool} (h1 : L.all (fun c => isCode c || P c) = true) (h2 : ∀ c ∈ L.filter isCode, P c = true) : L.all P = true := by
  refine List.all_eq_true.mpr fun c hc => ?_
  have h := List.all_eq_true.mp h1 c hc
  rcases Bool.eq_false_or_eq_true (isCode c) with hi | hi
  · exact h2 c (List.mem_filter.mpr ⟨hc, hi⟩)
  · simpa [hi] using h
set_option maxRecDepth 65536 in
theorem w_c0 : (Jvm.Cond.code x code maxLocals ret).before args0 about1 = true := code_word (m := ⟨1, 1⟩) (meth := k1m1) (c := k1c1) (by decide +kernel) rfl rfl rfl (by decide +kernel)
set_option maxRecDepth 65536 in
theorem w_c1 : (Jvm.Cond.code ({ cls := "org/hourbook/calendar/HourEnding", name := "<init>", desc := "(IZ)V" } : Jvm.MethodName) prog_6_method_1_code (3 : Nat) (Option.none : Option Jvm.ClassFile.FieldType)).before args0 about1 = true := code_word (m := ⟨8, 0⟩) (meth := k8m0) (c := k8c0) (by decide +kernel) rfl rfl rfl (by decide +kernel)
set_option maxRecDepth 65536 in
theorem w_c2 : (Jvm.Cond.code ({ cls := "java/lang/Record", name := "<init>", desc := "()V" } : Jvm.MethodName) jdk_30_method_1_code (1 : Nat) (Option.none : Option Jvm.ClassFile.FieldType)).before args0 about1 = true := code_word (m := ⟨7, 0⟩) (meth := k7m0) (c := k7c0) (by decide +kernel) rfl rfl rfl (by decide +kernel)
set_option maxRecDepth 65536 in
theorem w_c3 : (Jvm.Cond.code ({ cls := "java/lang/Object", name := "<init>", desc := "()V" } : Jvm.MethodName) object_method_1_code (1 : Nat) (Option.none : Option Jvm.ClassFile.FieldType)).before args0 about1 = true := code_word (m := ⟨0, 0⟩) (meth := k0m0) (c := k0c0) (by decide +kernel) rfl rfl rfl (by decide +kernel)
set_option maxRecDepth 65536 in
theorem w_c4 : (Jvm.Cond.code ({ cls := "org/hourbook/contract/RepeatedHour", name := "admits", desc := "(Lorg/hourbook/calendar/HourEnding;)Z" } : Jvm.MethodName) prog_27_method_5_code (2 : Nat) (Option.some Jvm.ClassFile.FieldType.boolean)).before args0 about1 = true := code_word (m := ⟨6, 0⟩) (meth := k6m0) (c := k6c0) (by decide +kernel) rfl rfl rfl (by decide +kernel)
set_option maxRecDepth 65536 in
theorem w_c5 : (Jvm.Cond.code ({ cls := "org/hourbook/calendar/HourEnding", name := "repeated", desc := "()Z" } : Jvm.MethodName) prog_6_method_11_code (1 : Nat) (Option.some Jvm.ClassFile.FieldType.boolean)).before args0 about1 = true := code_word (m := ⟨8, 1⟩) (meth := k8m1) (c := k8c1) (by decide +kernel) rfl rfl rfl (by decide +kernel)
def codes1 : List Jvm.Cond := [Jvm.Cond.code x code maxLocals ret, Jvm.Cond.code ({ cls := "org/hourbook/calendar/HourEnding", name := "<init>", desc := "(IZ)V" } : Jvm.MethodName) prog_6_method_1_code (3 : Nat) (Option.none : Option Jvm.ClassFile.FieldType), Jvm.Cond.code ({ cls := "java/lang/Record", name := "<init>", desc := "()V" } : Jvm.MethodName) jdk_30_method_1_code (1 : Nat) (Option.none : Option Jvm.ClassFile.FieldType), Jvm.Cond.code ({ cls := "java/lang/Object", name := "<init>", desc := "()V" } : Jvm.MethodName) object_method_1_code (1 : Nat) (Option.none : Option Jvm.ClassFile.FieldType), Jvm.Cond.code ({ cls := "org/hourbook/contract/RepeatedHour", name := "admits", desc := "(Lorg/hourbook/calendar/HourEnding;)Z" } : Jvm.MethodName) prog_27_method_5_code (2 : Nat) (Option.some Jvm.ClassFile.FieldType.boolean), Jvm.Cond.code ({ cls := "org/hourbook/calendar/HourEnding", name := "repeated", desc := "()Z" } : Jvm.MethodName) prog_6_method_11_code (1 : Nat) (Option.some Jvm.ClassFile.FieldType.boolean)]
set_option maxRecDepth 65536 in
theorem codes_eq : words1.filter isCode = codes1 := rfl
theorem w_codes : ∀ c ∈ words1.filter isCode, c.before args0 about1 = true := by
  rw [codes_eq]
  intro c hc
  simp only [codes1, List.mem_cons, List.not_mem_nil, or_false] at hc
  rcases hc with rfl | rfl | rfl | rfl | rfl | rfl
  · exact w_c0
  · exact w_c1
  · exact w_c2
  · exact w_c3
  · exact w_c4
  · exact w_c5
set_option maxRecDepth 65536 in
theorem w_t1 : (words1.take 24).all (fun c => isCode c || c.before args0 about1) = true := by decide +kernel
set_option maxRecDepth 65536 in
theorem w_t2 : (words1.drop 24).all (fun c => isCode c || c.before args0 about1) = true := by decide +kernel
theorem w_tables : (allAtoms (Jvm.Cond.code x code maxLocals ret :: tables_1)).before args0 about1 = true := by
  rw [allAtoms_all]
  show words1.all (fun c => c.before args0 about1) = true
  refine all_split ?_ w_codes
  rw [← List.take_append_drop 24 words1, List.all_append, w_t1, w_t2]
  rfl
set_option maxRecDepth 65536 in
theorem w_case : (Jvm.Cond.and given_1 narrow_1).before args0 about1 = true := by decide +kernel
theorem w_applies : (headSpec (Jvm.Cond.code x code maxLocals ret :: tables_1) room_1).applies x e0.platform about1 = true :=
  (Spec.applies_iff w_frames).mpr ⟨w_running, w_runnable, w_alone, w_named, w_hears, w_ripe, w_room, w_tables⟩
theorem atStart : AtStart classFile x code maxLocals ret World_1 tables_1 room_1 Calls_1 rest_1 Pre_1 launch0 p0 e0 about1 theMethod args0 below0 :=
  ⟨lists_1, trivial, launch0.admits_env _ _ _, launch0.least_env, fairChoices_fair.cas, fairChoices_fair.clock, w_frames, w_args, w_heap, w_applies, trivial, trivial, w_case⟩
end start1
theorem witness_1 : WitnessClaimed_1 := ⟨start1.p0, start1.e0, start1.about1, start1.theMethod, start1.args0, start1.below0, start1.atStart⟩
end Jvm.Pilot.@@N@@
